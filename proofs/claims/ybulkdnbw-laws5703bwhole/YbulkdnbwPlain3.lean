/- PLAIN: the heap: sift-up keeps it, sift-down restores it, its root is the least. -/
import Derived.Test.YbulkdnbwPlain2
import Derived.Shelf.GgSortFunc.RowK
namespace Go.Proofs.Ybulkdnbw
open Go.Sort Go.Lib
theorem SWO.asym {α : Type} {lt : α → α → Bool} (h : SWO lt) {x y : α} (h1 : lt x y = true) : lt y x = false := by
  cases h2 : lt y x with
  | false => rfl
  | true => have := h.trans x y x h1 h2; rw [h.irrefl] at this; cases this
/-- Not less than what is above something that one is below of. -/
theorem SWO.notlt {α : Type} {lt : α → α → Bool} (h : SWO lt) {x y z : α} (h1 : lt y z = true) (h2 : lt x z = false) : lt x y = false := by
  cases h3 : lt x y with
  | false => rfl
  | true => have := h.trans x y z h3 h1; rw [h2] at this; cases this

section
variable {α : Type} [Inhabited α] (lt : α → α → Bool)

def HeapTo (d : Array α) (m : Nat) : Prop := ∀ i, 1 ≤ i → i < m → lt d[i]! d[(i - 1) / 2]! = false

def up : Nat → Nat → Array α → Array α
  | 0, _, d => d
  | f + 1, i, d => if 0 < i ∧ lt d[i]! d[(i - 1) / 2]! = true then up f ((i - 1) / 2) (swp d i ((i - 1) / 2)) else d

theorem up_stop (f i : Nat) (d : Array α) (h : ¬ (0 < i ∧ lt d[i]! d[(i - 1) / 2]! = true)) : up lt f i d = d := by
  cases f with
  | zero => rfl
  | succ f => rw [up, if_neg h]
theorem up_go (f i : Nat) (d : Array α) (h1 : 0 < i) (h2 : lt d[i]! d[(i - 1) / 2]! = true) (hf : 1 ≤ f) : up lt f i d = up lt (f - 1) ((i - 1) / 2) (swp d i ((i - 1) / 2)) := by
  obtain ⟨g, rfl⟩ : ∃ g, f = g + 1 := ⟨f - 1, by omega⟩
  rw [up, if_pos ⟨h1, h2⟩]; rfl

theorem up_perm : ∀ (f i n : Nat) (d : Array α), i < n → n ≤ d.size → PermIn 0 n d (up lt f i d)
  | 0, _, n, d, _, _ => permIn_refl d 0 n
  | f + 1, i, n, d, hi, hn => by
    rw [up]
    split
    · have hp : PermIn 0 n d (swp d i ((i - 1) / 2)) := swp_permIn d 0 n _ _ (by omega) (by omega) (by omega) (by omega) hn
      exact permIn_trans _ _ _ 0 n hp (up_perm f _ n _ (by omega) (by rw [hp.1]; exact hn))
    · exact permIn_refl d 0 n

theorem swp_at (d : Array α) (i j k : Nat) (hi : i < d.size) (hj : j < d.size) : (swp d i j)[k]! = if k = j then d[i]! else if k = i then d[j]! else d[k]! := swp_get d hi hj k

variable {lt}
def UpInv (lt : α → α → Bool) (d : Array α) (n i : Nat) : Prop :=
  (∀ j, 1 ≤ j → j < n → j ≠ i → lt d[j]! d[(j - 1) / 2]! = false) ∧ (∀ j, 1 ≤ j → j < n → (j - 1) / 2 = i → 1 ≤ i → lt d[j]! d[(i - 1) / 2]! = false)

theorem up_heap (h : SWO lt) : ∀ (f i n : Nat) (d : Array α), i < n → n ≤ d.size → i ≤ f → UpInv lt d n i → HeapTo lt (up lt f i d) n
  | 0, i, n, d, _, _, hf, hI => by
    have : i = 0 := by omega
    subst this
    exact fun j h1 h2 => hI.1 j h1 h2 (by omega)
  | f + 1, i, n, d, hi, hn, hf, hI => by
    rw [up]
    split
    · rename_i hc
      obtain ⟨h0, hl⟩ := hc
      have hp : (i - 1) / 2 < d.size := by omega
      have hi' : i < d.size := by omega
      have hpi : (i - 1) / 2 < i := by omega
      refine up_heap h f _ n _ (by omega) (by rw [size_swp]; exact hn) (by omega) ⟨fun j h1 h2 hne => ?_, fun j h1 h2 hj hp1 => ?_⟩
      · rw [swp_at d _ _ j hi' hp, swp_at d _ _ _ hi' hp, if_neg hne]
        by_cases e : j = i
        · subst e
          rw [if_pos rfl, if_pos rfl]; exact SWO.asym h hl
        · rw [if_neg e]
          by_cases e1 : (j - 1) / 2 = (i - 1) / 2
          · rw [if_pos e1]
            have := hI.1 j h1 h2 e
            rw [e1] at this
            exact SWO.notlt h hl this
          · rw [if_neg e1]
            by_cases e2 : (j - 1) / 2 = i
            · rw [if_pos e2]; exact hI.2 j h1 h2 e2 (by omega)
            · rw [if_neg e2]; exact hI.1 j h1 h2 e
      · have hjp : j ≠ (i - 1) / 2 := by omega
        have q1 : ((i - 1) / 2 - 1) / 2 ≠ (i - 1) / 2 := by omega
        have q2 : ((i - 1) / 2 - 1) / 2 ≠ i := by omega
        rw [swp_at d _ _ j hi' hp, swp_at d _ _ _ hi' hp, if_neg hjp, if_neg q1, if_neg q2]
        have hpp := hI.1 ((i - 1) / 2) hp1 (by omega) (by omega)
        by_cases e : j = i
        · rw [if_pos e]; exact hpp
        · rw [if_neg e]
          have := hI.1 j h1 h2 e
          rw [hj] at this
          exact h.ntrans _ _ _ this hpp
    · rename_i hc
      intro j h1 h2
      by_cases e : j = i
      · subst e
        cases hl : lt d[j]! d[(j - 1) / 2]! with
        | false => rfl
        | true => exact absurd ⟨by omega, hl⟩ hc
      · exact hI.1 j h1 h2 e

/-- One more, laid at the end, sifted up. -/
theorem push_heap (h : SWO lt) (d : Array α) (n : Nat) (hs : n + 1 ≤ d.size) (hH : HeapTo lt d n) : HeapTo lt (up lt n n d) (n + 1) := by
  refine up_heap h n n (n + 1) d (by omega) hs (Nat.le_refl _) ⟨fun j h1 h2 hne => hH j h1 (by omega), fun j h1 h2 hj hi => ?_⟩
  omega

def DnInv (lt : α → α → Bool) (d : Array α) (m i : Nat) : Prop :=
  (∀ j, 1 ≤ j → j < m → (j - 1) / 2 ≠ i → lt d[j]! d[(j - 1) / 2]! = false) ∧ (∀ j, 1 ≤ j → j < m → (j - 1) / 2 = i → 1 ≤ i → lt d[j]! d[(i - 1) / 2]! = false)

theorem pick_stop (d : Array α) (m i : Nat) (hp : pick2 lt m i d = i) : (2 * i + 1 < m → lt d[2 * i + 1]! d[i]! = false) ∧ (2 * i + 2 < m → lt d[2 * i + 2]! d[i]! = false) := by
  unfold pick2 at hp
  split at hp
  · omega
  · rename_i hn
    have h1 : pick1 lt m i d = i := hp
    rw [h1] at hn
    unfold pick1 at h1
    split at h1
    · omega
    · rename_i hn1
      constructor
      · intro hm
        cases hl : lt d[2 * i + 1]! d[i]! with
        | false => rfl
        | true => exact absurd ⟨hm, hl⟩ hn1
      · intro hm
        cases hl : lt d[2 * i + 2]! d[i]! with
        | false => rfl
        | true => exact absurd ⟨hm, hl⟩ hn

theorem pick_go (h : SWO lt) (d : Array α) (m i c : Nat) (hp : pick2 lt m i d = c) (hne : c ≠ i) :
    c < m ∧ 1 ≤ c ∧ (c - 1) / 2 = i ∧ lt d[c]! d[i]! = true ∧ ∀ j, 1 ≤ j → j < m → (j - 1) / 2 = i → j ≠ c → lt d[j]! d[c]! = false := by
  have kids : ∀ j, 1 ≤ j → (j - 1) / 2 = i → j = 2 * i + 1 ∨ j = 2 * i + 2 := fun j h1 h2 => by omega
  have h1 : (pick1 lt m i d = 2 * i + 1 ∧ 2 * i + 1 < m ∧ lt d[2 * i + 1]! d[i]! = true) ∨ (pick1 lt m i d = i ∧ (2 * i + 1 < m → lt d[2 * i + 1]! d[i]! = false)) := by
    unfold pick1
    split
    · rename_i hc; exact .inl ⟨rfl, hc.1, hc.2⟩
    · rename_i hc
      refine .inr ⟨rfl, fun hm => ?_⟩
      cases hl : lt d[2 * i + 1]! d[i]! with
      | false => rfl
      | true => exact absurd ⟨hm, hl⟩ hc
  unfold pick2 at hp
  split at hp
  · rename_i hc
    subst hp
    obtain ⟨hm, hl⟩ := hc
    rcases h1 with ⟨e1, hm1, hl1⟩ | ⟨e1, hn1⟩
    · rw [e1] at hl
      refine ⟨hm, by omega, by omega, h.trans _ _ _ hl hl1, fun j j1 j2 j3 j4 => ?_⟩
      rcases kids j j1 j3 with rfl | rfl
      · exact SWO.asym h hl
      · exact absurd rfl j4
    · rw [e1] at hl
      refine ⟨hm, by omega, by omega, hl, fun j j1 j2 j3 j4 => ?_⟩
      rcases kids j j1 j3 with rfl | rfl
      · exact SWO.notlt h hl (hn1 j2)
      · exact absurd rfl j4
  · rename_i hc
    rcases h1 with ⟨e1, hm1, hl1⟩ | ⟨e1, hn1⟩
    · rw [e1] at hp hc
      subst hp
      refine ⟨hm1, by omega, by omega, hl1, fun j j1 j2 j3 j4 => ?_⟩
      rcases kids j j1 j3 with rfl | rfl
      · exact absurd rfl j4
      · cases hl : lt d[2 * i + 2]! d[2 * i + 1]! with
        | false => rfl
        | true => exact absurd ⟨j2, hl⟩ hc
    · rw [e1] at hp; exact absurd hp.symm hne

theorem sift_heap (h : SWO lt) (m : Nat) : ∀ (f i : Nat) (d : Array α), m ≤ d.size → m - i ≤ f → DnInv lt d m i → HeapTo lt (sift lt m f i d) m
  | 0, i, d, _, hf, hI => fun j h1 h2 => hI.1 j h1 h2 (by omega)
  | f + 1, i, d, hm, hf, hI => by
    by_cases hp : pick2 lt m i d = i
    · rw [sift_stop lt m _ i d hp]
      obtain ⟨k1, k2⟩ := pick_stop d m i hp
      intro j h1 h2
      by_cases e : (j - 1) / 2 = i
      · rw [e]
        have : j = 2 * i + 1 ∨ j = 2 * i + 2 := by omega
        rcases this with rfl | rfl
        · exact k1 h2
        · exact k2 h2
      · exact hI.1 j h1 h2 e
    · obtain ⟨c, hc⟩ : ∃ c, pick2 lt m i d = c := ⟨_, rfl⟩
      rw [hc] at hp
      obtain ⟨hcm, hc1, hpc, hl, hoth⟩ := pick_go h d m i c hc hp
      rw [sift_go lt m (f + 1) i c d hc hp (by omega), Nat.add_sub_cancel]
      have hi' : i < d.size := by omega
      have hc' : c < d.size := by omega
      refine sift_heap h m f c _ (by rw [size_swp]; exact hm) (by omega) ⟨fun j h1 h2 hne => ?_, fun j h1 h2 hj _ => ?_⟩
      · rw [swp_at d _ _ j hi' hc', swp_at d _ _ _ hi' hc', if_neg hne]
        by_cases e : j = c
        · subst e
          rw [if_pos rfl, hpc, if_pos rfl]; exact SWO.asym h hl
        · rw [if_neg e]
          by_cases e1 : j = i
          · subst e1
            have q : (j - 1) / 2 ≠ j := by omega
            rw [if_pos rfl, if_neg q]
            exact hI.2 c hc1 hcm hpc h1
          · rw [if_neg e1]
            by_cases e2 : (j - 1) / 2 = i
            · rw [if_pos e2]; exact hoth j h1 h2 e2 e
            · rw [if_neg e2]; exact hI.1 j h1 h2 e2
      · have q1 : j ≠ c := by omega
        have q2 : j ≠ i := by omega
        have q3 : i ≠ c := fun e => hp e.symm
        rw [swp_at d _ _ j hi' hc', swp_at d _ _ _ hi' hc', if_neg q1, if_neg q2, hpc, if_neg q3, if_pos rfl]
        have := hI.1 j h1 h2 (by omega)
        rwa [hj] at this

/-- pop leaves a heap. -/
theorem pop_heap (h : SWO lt) (d : Array α) (m : Nat) (hd : d.size = m + 1) (hH : HeapTo lt d (m + 1)) : HeapTo lt (sift lt m m 0 (d.setIfInBounds 0 d[m]!)) m := by
  refine sift_heap h m m 0 _ (by simp; omega) (by omega) ⟨fun j h1 h2 hne => ?_, fun j _ _ _ h0 => by omega⟩
  rw [getElem!_set_other d 0 j _ (by omega), getElem!_set_other d 0 _ _ (by omega)]
  exact hH j h1 (by omega)

/-- Nothing is less than the root. -/
theorem heap_root (h : SWO lt) (d : Array α) (n : Nat) (hH : HeapTo lt d n) : ∀ j, j < n → lt d[j]! d[0]! = false := by
  intro j
  induction j using Nat.strongRecOn with
  | _ j ih =>
    intro hj
    rcases Nat.eq_zero_or_pos j with e | e
    · subst e; exact h.irrefl _
    · exact h.ntrans _ _ _ (hH j e hj) (ih ((j - 1) / 2) (by omega) (by omega))
end
end Go.Proofs.Ybulkdnbw
