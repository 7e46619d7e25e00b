/- The texts of values, as plain functions; rows of bytes that the call itself makes. -/
import Derived.Test.YbulkdneaFmtCards
import Derived.Test.YbulkdneaFmtTie
import Derived.WalkKit
import Derived.WalkSpells
import Derived.Deep.LoopGhost
import Derived.Deep.AppendLies
import Derived.OwnWalk
import Derived.OneCell
import Derived.Lib.ItoaNum
import Derived.Lib.UnsafeStr
namespace Go.Proofs.YbulkdneaFmt
open Go.RowKit

abbrev VV := (Int × Int) × ByteArray
def esc (b : UInt8) : List UInt8 :=
  if b = 39 then [39, 39] else if b = 92 then [92, 92] else if b = 0 then [92, 48] else if b = 10 then [92, 110] else if b = 13 then [92, 114] else if b = 26 then [92, 90] else [b]
def body (s : ByteArray) (j : Nat) : List UInt8 := (s.data.toList.take j).flatMap esc
def quoteL (s : ByteArray) : List UInt8 := 39 :: (s.data.toList.flatMap esc ++ [39])
def utoaL (u : Nat) : List UInt8 := Lib.decDigits u
def oneL (v : VV) : List UInt8 :=
  if v.1.1 = 3 ∨ v.1.1 = 4 then quoteL v.2 else if v.1.1 = 1 then Lib.itoa v.1.2 else if v.1.1 = 2 then utoaL (v.1.2 % 18446744073709551616).toNat
  else if v.1.1 = 7 then [78, 85, 76, 76] else if v.1.1 = 8 then [77, 65, 88, 86, 65, 76, 85, 69] else v.2.data.toList
def joinL (vs : List VV) : Nat → List UInt8
  | 0 => []
  | i + 1 => joinL vs i ++ ((if 0 < i then [44] else []) ++ oneL vs[i]!)

theorem esc_len (b : UInt8) : (esc b).length ≤ 2 := by unfold esc; (repeat' split) <;> simp
theorem flat_esc_len : ∀ l : List UInt8, (l.flatMap esc).length ≤ 2 * l.length
  | [] => by simp
  | b :: l => by rw [List.flatMap_cons, List.length_append, List.length_cons]; have := esc_len b; have := flat_esc_len l; omega
theorem body_len (s : ByteArray) (j : Nat) : (body s j).length ≤ 2 * j := by
  have h1 := flat_esc_len (s.data.toList.take j)
  have h2 : (s.data.toList.take j).length ≤ j := by rw [List.length_take]; omega
  unfold body; omega
theorem body_succ (s : ByteArray) (j : Nat) (h : j < s.size) : body s (j + 1) = body s j ++ esc (s[j]) := by
  unfold body
  have h' : j < s.data.toList.length := by simpa using h
  rw [List.take_succ_eq_append_getElem h', List.flatMap_append]
  simp [ByteArray.getElem_eq_getElem_data]
theorem body_all (s : ByteArray) : body s s.size = s.data.toList.flatMap esc := by
  unfold body
  have : s.size = s.data.toList.length := by simp
  rw [this, List.take_length]
theorem nDigits_le (u : Nat) (h : u < 18446744073709551616) : Lib.nDigits u ≤ 20 := by
  by_cases h1 : 1 ≤ u
  · have := Lib.numDigits_eq u h1 h; split at this <;> omega
  · rw [Lib.nDigits_small (by omega)]; omega
theorem utoaL_len (u : Nat) (h : u < 18446744073709551616) : (utoaL u).length ≤ 20 := by
  unfold utoaL; rw [Lib.decDigits_length]; exact nDigits_le u h

/-- A row of bytes of the call's own. -/
structure BR (B : Nat) (v : Value) (l : List UInt8) (w : World) : Prop where
  own : w.ownsRow B 5 1 v l.length (Lib.byteCells l)
  hB : B ≤ w.heap.size

theorem info5 : (Ybaf.prog.info? 5).map (fun i => (i.zero, i.size, i.bytes)) = some (some (.int .u8 0), 1, 1) := by kernel_rfl
theorem byteCells_app (l m : List UInt8) : Lib.byteCells (l ++ m) = Lib.byteCells l ++ Lib.byteCells m := by unfold Lib.byteCells; rw [List.map_append]
theorem one_bytes (l : List UInt8) : ∀ u ∈ Lib.byteCells l, u.oneCell' = true := by
  intro u hu; unfold Lib.byteCells at hu
  obtain ⟨b, _, rfl⟩ := List.mem_map.1 hu
  rfl
theorem news1 (w : World) (u : Value) (t : TypeId) : ∀ j x, [u][j]? = some x → (w.alloc (Obj.cells #[u] t)).cell? ((⟨w.heap.size, 0, none⟩ : Addr).add j) = some x := by
  intro j x hj
  match j, hj with
  | 0, hj => simp at hj; subst hj; simp [Addr.add]
theorem news2 (w : World) (u v : Value) (t : TypeId) : ∀ j x, [u, v][j]? = some x → (w.alloc (Obj.cells #[u, v] t)).cell? ((⟨w.heap.size, 0, none⟩ : Addr).add j) = some x := by
  intro j x hj
  match j, hj with
  | 0, hj => simp at hj; subst hj; simp [Addr.add]
  | 1, hj => simp at hj; subst hj; simp [Addr.add]

/-- Behind an append. -/
theorem BR.app {B : Nat} {v v' : Value} {l m : List UInt8} {n : Nat} {w w1 w' : World} (h : BR B v l w) (_hn : l.length = n) (hw1 : RowKit.Below B w w1) (o : w'.ownsRow B 5 1 v' (n + m.length) (Lib.byteCells l ++ Lib.byteCells m)) (g : w1.grownBy w' v.ownBlock) : BR B v' (l ++ m) w' ∧ RowKit.Below B w w' := by
  subst _hn
  refine ⟨⟨by rw [byteCells_app, List.length_append]; exact o, Nat.le_trans h.hB (Nat.le_trans hw1.size g.size)⟩, hw1.grown g (Nat.le_trans h.hB hw1.size) (fun k e => (h.own.lt k e).1)⟩
end Go.Proofs.YbulkdneaFmt
