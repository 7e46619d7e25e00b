/- PLAIN MATHEMATICS for seat b5703a: comparisons, the order of items, the heap's sifts. No program in sight. -/
import Derived.Sort.LotA
import Derived.Sort.Lot0
import Derived.Lib.Small
import Derived.Lib.Bytealg
import Derived.Shelf.SlSortCmp.Insertion
namespace Go.Proofs.Ybulkdnbw
open Go.Sort Go.Lib

/-! ### comparisons -/
structure Cmp {α : Type} (c : α → α → Int) : Prop where
  self : ∀ a, c a a = 0
  same : ∀ a b, c a b = 0 → a = b
  anti : ∀ a b, c a b < 0 ↔ 0 < c b a
  step : ∀ a b d, c a b < 0 → c b d < 0 → c a d < 0

def orI (p q : Int) : Int := if p = 0 then q else p

theorem Cmp.lex {α β : Type} {c : α → α → Int} {e : β → β → Int} (hc : Cmp c) (he : Cmp e) : Cmp (fun (x y : α × β) => orI (c x.1 y.1) (e x.2 y.2)) := by
  have z : ∀ a b, c a b = 0 → c b a = 0 := fun a b h => by rw [hc.same a b h]; exact hc.self b
  constructor
  · intro a; simp [orI, hc.self, he.self]
  · intro a b h
    unfold orI at h
    by_cases h1 : c a.1 b.1 = 0
    · rw [if_pos h1] at h
      exact Prod.ext (hc.same _ _ h1) (he.same _ _ h)
    · rw [if_neg h1] at h; exact absurd h h1
  · intro a b
    unfold orI
    by_cases h1 : c a.1 b.1 = 0
    · rw [if_pos h1, if_pos (z _ _ h1)]; exact he.anti _ _
    · rw [if_neg h1, if_neg (fun h => h1 (z _ _ h))]; exact hc.anti _ _
  · intro a b d h1 h2
    unfold orI at *
    by_cases g1 : c a.1 b.1 = 0
    · have e1 := hc.same _ _ g1
      rw [if_pos g1] at h1
      by_cases g2 : c b.1 d.1 = 0
      · have e2 := hc.same _ _ g2
        rw [if_pos g2] at h2
        rw [e1, e2, if_pos (hc.self _)]
        exact he.step _ _ _ h1 h2
      · rw [if_neg g2] at h2
        rw [e1, if_neg g2]; exact h2
    · rw [if_neg g1] at h1
      by_cases g2 : c b.1 d.1 = 0
      · have e2 := hc.same _ _ g2
        rw [← e2, if_neg g1]; exact h1
      · rw [if_neg g2] at h2
        have := hc.step _ _ _ h1 h2
        rw [if_neg (by omega)]; exact this

theorem Cmp.swo {α : Type} {c : α → α → Int} (h : Cmp c) : SWO (ltOf c) where
  irrefl x := by simp [ltOf, h.self]
  trans x y z h1 h2 := by simp only [ltOf, decide_eq_true_eq] at *; exact h.step _ _ _ h1 h2
  ntrans x y z h1 h2 := by
    simp only [ltOf, decide_eq_false_iff_not] at *
    intro h3
    by_cases g : c x y = 0
    · rw [h.same _ _ g] at h3; exact h2 h3
    · have g1 : c y x < 0 := (h.anti _ _).2 (by omega)
      exact h2 (h.step _ _ _ g1 h3)

theorem Cmp.total {α : Type} {c : α → α → Int} (h : Cmp c) : ∀ x y, ltOf c x y = false → ltOf c y x = false → x = y := by
  intro x y h1 h2
  simp only [ltOf, decide_eq_false_iff_not] at *
  refine h.same _ _ ?_
  have := h.anti y x
  omega

/-! ### bytes -/
theorem cb_self : ∀ a : List UInt8, compareBytes a a = 0
  | [] => rfl
  | x :: a => by have : ¬ x < x := UInt8.lt_irrefl x; simp [compareBytes, this, cb_self a]

theorem cb_rng : ∀ a b : List UInt8, compareBytes a b = -1 ∨ compareBytes a b = 0 ∨ compareBytes a b = 1
  | [], [] => by simp [compareBytes]
  | [], _ :: _ => by simp [compareBytes]
  | _ :: _, [] => by simp [compareBytes]
  | x :: a, y :: b => by
    unfold compareBytes
    by_cases h1 : x < y
    · simp [h1]
    · by_cases h2 : y < x
      · simp [h1, h2]
      · simp only [h1, h2, if_false]; exact cb_rng a b

theorem u8_tri (x y : UInt8) (h1 : ¬ x < y) (h2 : ¬ y < x) : x = y := UInt8.le_antisymm (UInt8.not_lt.1 h2) (UInt8.not_lt.1 h1)
theorem u8_asym (x y : UInt8) (h1 : x < y) : ¬ y < x := UInt8.lt_asymm h1

theorem cb_same : ∀ a b : List UInt8, compareBytes a b = 0 → a = b
  | [], [], _ => rfl
  | [], _ :: _, h => by simp [compareBytes] at h
  | _ :: _, [], h => by simp [compareBytes] at h
  | x :: a, y :: b, h => by
    unfold compareBytes at h
    by_cases h1 : x < y
    · simp [h1] at h
    · by_cases h2 : y < x
      · simp [h1, h2] at h
      · simp only [h1, h2, if_false] at h
        rw [u8_tri x y h1 h2, cb_same a b h]

theorem cb_neg : ∀ a b : List UInt8, compareBytes b a = - compareBytes a b
  | [], [] => rfl
  | [], _ :: _ => by simp [compareBytes]
  | _ :: _, [] => by simp [compareBytes]
  | x :: a, y :: b => by
    unfold compareBytes
    by_cases h1 : x < y
    · simp [h1, u8_asym x y h1]
    · by_cases h2 : y < x
      · simp [h1, h2]
      · simp only [h1, h2, if_false]; exact cb_neg a b

theorem cb_step : ∀ a b d : List UInt8, compareBytes a b < 0 → compareBytes b d < 0 → compareBytes a d < 0
  | [], [], _, h, _ => by simp [compareBytes] at h
  | _ :: _, [], _, h, _ => by simp [compareBytes] at h
  | [], _ :: _, [], _, h => by simp [compareBytes] at h
  | _ :: _, _ :: _, [], _, h => by simp [compareBytes] at h
  | [], _ :: _, _ :: _, _, _ => by simp [compareBytes]
  | x :: a, y :: b, z :: d, h1, h2 => by
    unfold compareBytes at *
    by_cases g1 : x < y
    · by_cases g2 : y < z
      · have := UInt8.lt_trans g1 g2; simp [this]
      · by_cases g3 : z < y
        · simp [g2, g3] at h2
        · have e := u8_tri y z g2 g3; subst e; simp [g1]
    · by_cases g1' : y < x
      · simp [g1, g1'] at h1
      · have e := u8_tri x y g1 g1'; subst e
        simp only [g1, if_false] at h1
        by_cases g2 : x < z
        · simp [g2]
        · by_cases g3 : z < x
          · simp [g2, g3] at h2
          · simp only [g2, g3, if_false] at h2 ⊢
            exact cb_step a b d h1 h2

theorem bl_cb : ∀ a b : List UInt8, Op.bytesLess a b = decide (compareBytes a b < 0)
  | [], [] => by simp [Op.bytesLess, compareBytes]
  | [], _ :: _ => by simp [Op.bytesLess, compareBytes]
  | _ :: _, [] => by simp [Op.bytesLess, compareBytes]
  | x :: a, y :: b => by
    unfold Op.bytesLess compareBytes
    by_cases h1 : x < y
    · simp [h1]
    · by_cases h2 : y < x
      · have : (x == y) = false := by simp; intro e; subst e; exact h1 h2
        simp [h1, h2, this]
      · have e := u8_tri x y h1 h2; subst e
        simp only [h1, if_false, decide_false, Bool.false_or, beq_self_eq_true, Bool.true_and]
        exact bl_cb a b

theorem ba_ext {a b : ByteArray} (h : a.data.toList = b.data.toList) : a = b := by
  obtain ⟨⟨x⟩⟩ := a; obtain ⟨⟨y⟩⟩ := b; simp at h; rw [h]

def cb (a b : ByteArray) : Int := compareBytes a.data.toList b.data.toList
def ci (x y : Int) : Int := Lib.compareInt x y

theorem cb_cmp : Cmp cb where
  self a := cb_self _
  same a b h := ba_ext (cb_same _ _ h)
  anti a b := by unfold cb; rw [cb_neg a.data.toList b.data.toList]; omega
  step a b d := cb_step _ _ _

theorem ci_cmp : Cmp ci where
  self a := by simp [ci, Lib.compareInt]
  same a b h := by unfold ci Lib.compareInt at h; split at h <;> (try split at h) <;> omega
  anti a b := by unfold ci Lib.compareInt; split <;> split <;> (try split) <;> (try split) <;> omega
  step a b d := by unfold ci Lib.compareInt; intro h1 h2; split at h1 <;> split at h2 <;> split <;> (try split at h1) <;> (try split at h2) <;> (try split) <;> omega

/-- An item: its account, its class, its source. -/
abbrev Item := (ByteArray × ByteArray) × Int
def cf (x y : Item) : Int := orI (orI (cb x.1.1 y.1.1) (cb x.1.2 y.1.2)) (ci x.2 y.2)
theorem cf_cmp : Cmp cf := (cb_cmp.lex cb_cmp).lex ci_cmp
def lt : Item → Item → Bool := ltOf cf
theorem lt_swo : SWO lt := cf_cmp.swo
theorem lt_total : ∀ x y, lt x y = false → lt y x = false → x = y := cf_cmp.total

/-! ### the sifts -/
section
variable {α : Type} [Inhabited α] (lt : α → α → Bool)

def pick1 (m i : Nat) (d : Array α) : Nat := if 2 * i + 1 < m ∧ lt d[2 * i + 1]! d[i]! = true then 2 * i + 1 else i
def pick2 (m i : Nat) (d : Array α) : Nat := if 2 * i + 2 < m ∧ lt d[2 * i + 2]! d[pick1 lt m i d]! = true then 2 * i + 2 else pick1 lt m i d
def sift (m : Nat) : Nat → Nat → Array α → Array α
  | 0, _, d => d
  | f + 1, i, d => if pick2 lt m i d = i then d else sift m f (pick2 lt m i d) (swp d i (pick2 lt m i d))

theorem pick_rng (m i : Nat) (d : Array α) : pick2 lt m i d = i ∨ (pick2 lt m i d = 2 * i + 1 ∧ 2 * i + 1 < m) ∨ (pick2 lt m i d = 2 * i + 2 ∧ 2 * i + 2 < m) := by
  have h1 : pick1 lt m i d = i ∨ (pick1 lt m i d = 2 * i + 1 ∧ 2 * i + 1 < m) := by
    unfold pick1
    split
    · rename_i h; exact .inr ⟨rfl, h.1⟩
    · exact .inl rfl
  unfold pick2
  split
  · rename_i h; exact .inr (.inr ⟨rfl, h.1⟩)
  · rcases h1 with h1 | h1
    · exact .inl h1
    · exact .inr (.inl h1)

theorem sift_stop (m f i : Nat) (d : Array α) (h : pick2 lt m i d = i) : sift lt m f i d = d := by
  cases f with
  | zero => rfl
  | succ f => rw [sift, if_pos h]
theorem sift_go (m f i l2 : Nat) (d : Array α) (h : pick2 lt m i d = l2) (hne : l2 ≠ i) (hf : 1 ≤ f) : sift lt m f i d = sift lt m (f - 1) l2 (swp d i l2) := by
  obtain ⟨g, rfl⟩ : ∃ g, f = g + 1 := ⟨f - 1, by omega⟩
  rw [sift, h, if_neg hne]; rfl

theorem sift_perm (m : Nat) : ∀ (f i : Nat) (d : Array α), m ≤ d.size → PermIn 0 m d (sift lt m f i d)
  | 0, _, d, _ => permIn_refl d 0 m
  | f + 1, i, d, hm => by
    rw [sift]
    split
    · exact permIn_refl d 0 m
    · rename_i hne
      have hr := pick_rng lt m i d
      have hp : PermIn 0 m d (swp d i (pick2 lt m i d)) := swp_permIn d 0 m _ _ (by omega) (by omega) (by omega) (by omega) hm
      exact permIn_trans _ _ _ 0 m hp (sift_perm m f _ _ (by rw [hp.1]; exact hm))

theorem sift_size (m f i : Nat) (d : Array α) (h : m ≤ d.size) : (sift lt m f i d).size = d.size := (sift_perm lt m f i d h).1
end
end Go.Proofs.Ybulkdnbw
