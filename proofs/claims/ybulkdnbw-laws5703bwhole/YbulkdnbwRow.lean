/- THE ROW OF k-CELL ELEMENTS IN A WORLD THAT IS A VARIABLE: loads, stores, growth. -/
import Derived.Test.YbulkdnbwLess
import Derived.Shelf.SlicesQ.Reverse
import Derived.Shelf.SlicesQ.Load
namespace Go.Proofs.Ybulkdnbw
open Go.RowKit Go.Lib Go.Sort
theorem rowB {α : Type} (d : Array α) (k i : Nat) (hi : i < d.size) : i * k + k ≤ d.size * k := by
  have := Nat.mul_le_mul_right k (show i + 1 ≤ d.size from hi); rwa [Nat.add_mul, Nat.one_mul] at this

section
variable {α : Type} [Inhabited α] {enc : α → List Value} {k : Nat}

theorem ld_row (P : Program) {W : World} {blk off : Nat} {d : Array α} (hk : ∀ x, (enc x).length = k) (h : HoldsK enc k W blk off d) (i : Nat) (hi : i < d.size) :
    Sem.run P (loadCellsFrom ⟨blk, off + i * k, none⟩ 0 k #[]) W = .ok (enc d[i]!).toArray W :=
  run_loadCellsFrom_list P _ _ _ k (hk _) (HoldsK.cells h hk hi)

theorem st_row (P : Program) {W : World} {blk off : Nat} {d : Array α} (hk : ∀ x, (enc x).length = k) (h1 : ∀ x, ∀ v ∈ enc x, v.oneCell' = true) (h : HoldsK enc k W blk off d) (i : Nat) (hi : i < d.size) (y : α) :
    Sem.run P (storeCells ⟨blk, off + i * k, none⟩ (enc y) 0) W = .ok () (W.setCells blk (off + i * k) (enc y)) :=
  stores_of_holds P h (i * k) _ (by rw [hk, size_flatK]; exact rowB d k i hi) (h1 _)

theorem flatK_set (hk : ∀ x, (enc x).length = k) (d : Array α) (i : Nat) (hi : i < d.size) (y : α) : setMany (flatK enc k d) (i * k) (enc y) = flatK enc k (d.setIfInBounds i y) := by
  refine ext_get! (by simp) fun t ht => ?_
  have ht' : t < d.size * k := by simpa using ht
  have k0 : 0 < k := by rcases Nat.eq_zero_or_pos k with h | h; · subst h; simp at ht'
                        · exact h
  have td : t / k < d.size := by rw [Nat.div_lt_iff_lt_mul k0]; exact ht'
  rw [get_setMany _ _ _ t (by simpa using ht'), get_flatK _ _ _ t ht', get_flatK _ _ _ t (by simpa using ht'), hk]
  by_cases a : t / k = i
  · rw [if_pos ((blk_iff k i t k0).2 a), a, getElem!_set_same d i y hi]
    subst a; rw [Nat.mod_eq_sub_div_mul]
  · rw [if_neg (fun h => a ((blk_iff k i t k0).1 h)), getElem!_set_other d i (t / k) y a]

theorem holds_setCells_own {W : World} {blk off : Nat} {F : Array Value} (h : Holds id W blk off F) : ∀ (vs : List Value) (s : Nat), s + vs.length ≤ F.size → Holds id (W.setCells blk (off + s) vs) blk off (setMany F s vs) := by
  intro vs s hs j hj
  have hj' : j < F.size := by simpa using hj
  constructor
  · rw [get_setMany _ _ _ j hj']
    have e := putRow_self id W blk off F h
    rw [← e, setCells_putRow W blk off vs s F hs]
    have hh := holds_putRow id W blk off F (setMany F s vs) h (by simp)
    have := (hh j hj).1
    rw [get_setMany _ _ _ j hj'] at this
    exact this
  · rw [World.frozen?_setCells]; exact (h j hj').2

theorem holdsK_set {W : World} {blk off : Nat} {d : Array α} (hk : ∀ x, (enc x).length = k) (h : HoldsK enc k W blk off d) (i : Nat) (hi : i < d.size) (y : α) :
    HoldsK enc k (W.setCells blk (off + i * k) (enc y)) blk off (d.setIfInBounds i y) := by
  unfold HoldsK
  rw [← flatK_set hk d i hi y]
  exact holds_setCells_own h _ _ (by rw [hk, size_flatK]; exact rowB d k i hi)

theorem holdsK_other {W : World} {b o blk x : Nat} {d : Array α} (hne : b ≠ blk) (h : HoldsK enc k W b o d) (u : List Value) : HoldsK enc k (W.setCells blk x u) b o d := fun j hj =>
  ⟨by rw [World.cell?_setCells_out blk _ _ _ _ (fun e _ => absurd e hne)]; exact (h j hj).1, by rw [World.frozen?_setCells]; exact (h j hj).2⟩

theorem Gr.holdsK {w w' : World} (g : Gr w w') {b o : Nat} {d : Array α} (hb : b < w.heap.size) (h : HoldsK enc k w b o d) : HoldsK enc k w' b o d := fun j hj =>
  ⟨by rw [g.cell (by exact hb)]; exact (h j hj).1, by rw [g.frozen (by exact hb)]; exact (h j hj).2⟩

theorem holdsK_setCell {W : World} {b o : Nat} {d : Array α} {p : Addr} (hne : b ≠ p.block) (h : HoldsK enc k W b o d) (v : Value) : HoldsK enc k (W.setCell p v) b o d := fun j hj =>
  ⟨by rw [World.cell?_setCell_other _ _ _ _ (fun e => hne (by rw [e]))]; exact (h j hj).1, by rw [World.frozen?_setCell]; exact (h j hj).2⟩
end

theorem below_setCells {B : Nat} {a : World} {blk : Nat} (hb : B ≤ blk) : ∀ (vs : List Value) (o : Nat) (w : World), RowKit.Below B a w → RowKit.Below B a (w.setCells blk o vs)
  | [], _, _, h => h
  | v :: r, o, _, h => below_setCells hb r (o + 1) _ (h.setCell (p := ⟨blk, o, none⟩) hb v)
theorem size_setCells : ∀ (vs : List Value) (blk o : Nat) (w : World), (w.setCells blk o vs).heap.size = w.heap.size
  | [], _, _, _ => rfl
  | v :: r, blk, o, w => by rw [World.setCells, size_setCells r]; simp
theorem Gr.below {w w' : World} (g : Gr w w') : RowKit.Below w.heap.size w w' := by
  obtain ⟨q, os, rfl⟩ := g
  refine ⟨rfl, rfl, rfl, by rw [Sort.size_grow]; exact Nat.le_add_right _ _, fun j hj => ?_⟩
  exact heap_grow_old (w.drewN q) os hj

theorem encH_len (x : Item) : (encH x).length = 11 := rfl
theorem encH_one (x : Item) : ∀ v ∈ encH x, v.oneCell' = true := by
  intro v hv
  simp only [encH, hcells, List.mem_cons, List.not_mem_nil, or_false] at hv
  rcases hv with rfl | rfl | rfl | rfl | rfl | rfl | rfl | rfl | rfl | rfl | rfl <;> rfl
/-- A new variable that holds one head: a row of one. -/
theorem holdsK_new (w : World) (x : Item) (T : TypeId) : HoldsK encH 11 (w.alloc (.cells (encH x).toArray T)) w.heap.size 0 #[x] := by
  intro j hj
  have hj' : j < 11 := by simpa using hj
  refine ⟨?_, by simp⟩
  rw [get_flatK _ _ _ _ (by simpa using hj')]
  have e1 : j / 11 = 0 := by omega
  have e2 : j % 11 = j := by omega
  rw [e1, e2]
  have hl : j < (encH x).length := by rw [encH_len]; exact hj'
  rw [Nat.zero_add, World.cell?_alloc_new, List.getElem?_toArray, List.getElem?_eq_getElem hl]
  show some _ = some (encH x)[j]!
  rw [getElem!_pos (encH x) j hl]
/-- The zero head. -/
def zItem : Item := ((⟨#[]⟩, ⟨#[]⟩), 0)
/-- An item's three cells. -/
def encI (x : Item) : List Value := [.string x.1.1, .string x.1.2, .int .i64 x.2]
theorem encI_len (x : Item) : (encI x).length = 3 := rfl
theorem encI_one (x : Item) : ∀ v ∈ encI x, v.oneCell' = true := by
  intro v hv
  simp only [encI, List.mem_cons, List.not_mem_nil, or_false] at hv
  rcases hv with rfl | rfl | rfl <;> rfl
end Go.Proofs.Ybulkdnbw
