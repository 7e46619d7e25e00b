/- PLAIN: pop hands back the first and leaves the others, as a multiset. -/
import Derived.Test.YbulkdnbwPlain
namespace Go.Proofs.Ybulkdnbw
open Go.Sort Go.Lib
section
variable {α : Type} [Inhabited α] (lt : α → α → Bool)

theorem first_perm (l : List α) (m : Nat) (h : l.length = m + 1) : ((l.set 0 l[m]!).take m ++ [l[0]!]).Perm l := by
  match l, h with
  | x :: r, h =>
    rcases List.eq_nil_or_concat r with rfl | ⟨mid, y, rfl⟩
    · have : m = 0 := by simpa using h.symm
      subst this
      simp
    · rw [List.concat_eq_append] at h ⊢
      have hm : m = mid.length + 1 := by simp at h; omega
      subst hm
      have e1 : (x :: (mid ++ [y]))[mid.length + 1]! = y := by simp
      rw [e1]
      simp only [List.set_cons_zero, List.getElem!_cons_zero, List.take_succ_cons]
      rw [List.take_append_of_le_length (Nat.le_refl _), List.take_length]
      show (y :: (mid ++ [x])).Perm (x :: (mid ++ [y]))
      have p1 : (y :: (mid ++ [x])).Perm (y :: x :: mid) := List.Perm.cons _ (List.perm_append_singleton x mid)
      have p2 : (x :: (mid ++ [y])).Perm (x :: y :: mid) := List.Perm.cons _ (List.perm_append_singleton y mid)
      exact p1.trans ((List.Perm.swap x y mid).trans p2.symm)

theorem arr_get (d : Array α) (i : Nat) : d[i]! = d.toList[i]! := by
  by_cases h : i < d.size
  · rw [getElem!_pos d i h, getElem!_pos d.toList i (by simpa using h)]; simp
  · rw [getElem!_neg d i h, getElem!_neg d.toList i (by simpa using h)]

theorem pop_perm (d : Array α) (m : Nat) (hd : d.size = m + 1) : ((sift lt m m 0 (d.setIfInBounds 0 d[m]!)).toList.take m ++ [d[0]!]).Perm d.toList := by
  have hp := sift_perm lt m m 0 (d.setIfInBounds 0 d[m]!) (by simp; omega)
  obtain ⟨hs, _, hp⟩ := hp
  have e : ∀ a : Array α, (a.extract 0 m).toList = a.toList.take m := fun a => by simp
  rw [e, e] at hp
  have h1 := first_perm d.toList m (by simpa using hd)
  refine (List.Perm.append_right _ hp).trans ?_
  have e2 : (d.setIfInBounds 0 d[m]!).toList = d.toList.set 0 d.toList[m]! := by rw [Array.toList_setIfInBounds, arr_get]
  rw [e2, arr_get]
  exact h1
end
end Go.Proofs.Ybulkdnbw
