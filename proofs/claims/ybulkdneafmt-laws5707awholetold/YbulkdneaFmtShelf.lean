/- The shelf's contracts at this program, laid by the kit's tool in plain words (slices.Clone and slices.Equal by two rows more). -/
import Derived.Shelf.Strings.Builder1
import Derived.Shelf.Strings.BuilderF
import Derived.Shelf.Strings.BuilderK
import Derived.Shelf.Strconv.Itoa0
import Derived.Shelf.Strconv.Itoa1
import Derived.Shelf.LaysM
import Derived.Shelf.Strconv.Itoa2
import Derived.Shelf.Strconv.Itoa3
import Derived.Shelf.Strconv.Itoa4
import Derived.Shelf.SlGeneric
import Derived.Shelf.SlicesE.Clone
import Derived.Shelf.SlicesQ.Equal
import Derived.Ground.SlgnProg
import Derived.Ground.SlgqProg
import Derived.Test.YbulkdneaFmtProg
namespace Go.Proofs
open Go.Shelf
def Ybaf.lays169_ren : Go.Shelf.Ren := ⟨fun | 169 => 10 | n => n, fun | 70 => 41 | 9 => 9 | 0 => 0 | 72 => 43 | 37 => 37 | 127 => 56 | 3 => 3 | 5 => 5 | n => n, fun | n => n⟩
theorem Ybaf.lays169 : Go.Proofs.Lays.n169 Ybaf.prog Ybaf.lays169_ren := {
  mixed := by kernel_rfl
  f169 := Ybaf.func10.trans (congrArg some (by kernel_rfl))
  t0 := Ybaf.underlying0
  a0 := Ybaf.isAgg0
  z0 := Ybaf.sizeOf0
  v0 := Ybaf.zeroValue0
  t3 := Ybaf.underlying3
  a3 := Ybaf.isAgg3
  z3 := Ybaf.sizeOf3
  v3 := Ybaf.zeroValue3
  t9 := Ybaf.underlying9
  a9 := Ybaf.isAgg9
  z9 := Ybaf.sizeOf9
  v9 := Ybaf.zeroValue9
  t37 := Ybaf.underlying37
  a37 := Ybaf.isAgg37
  z37 := Ybaf.sizeOf37
  v37 := Ybaf.zeroValue37
  t70 := Ybaf.underlying41
  a70 := Ybaf.isAgg41
  z70 := Ybaf.sizeOf41
  v70 := Ybaf.zeroValue41
  t72 := Ybaf.underlying43
  a72 := Ybaf.isAgg43
  z72 := Ybaf.sizeOf43
  v72 := Ybaf.zeroValue43
  t127 := Ybaf.underlying56
  a127 := Ybaf.isAgg56
  z127 := Ybaf.sizeOf56
  v127 := Ybaf.zeroValue56 }
theorem Ybaf.Builder_Extra_169 : Builder.Extra Ybaf.prog Ybaf.lays169_ren := {
  sizeBuilder := by kernel_rfl
  liesBuilder := by kernel_rfl
  t5 := Ybaf.underlying5
  a5 := Ybaf.isAgg5
  z5 := Ybaf.sizeOf5
  v5 := Ybaf.zeroValue5
  infoByte := by kernel_rfl
  cellsByte := by kernel_rfl
  sizeByte := by kernel_rfl
  neB5 := by decide }
open Go.RowKit in
theorem Ybaf.Builder_String (B b : Nat) (l : List UInt8) (w : World) (h : Lib.IsBuilder 43 5 B b (Lib.byteCells l) w) (h0 : l ≠ []) :
    Calls Ybaf.prog 10 #[.pointer (some ⟨b, 0, none⟩)] w fun e w' => e = .returned (.string ⟨l.toArray⟩) ∧ Below B w w' := Any.Builder_String Ybaf.lays169 Ybaf.Builder_Extra_169 B b l w h h0
open Go.RowKit in
theorem Ybaf.Builder_String_empty (B b : Nat) (w : World) (h : Lib.IsBuilder 43 5 B b [] w) (hBw : B ≤ w.heap.size) :
    Calls Ybaf.prog 10 #[.pointer (some ⟨b, 0, none⟩)] w fun e w' => e = .returned (.string ⟨#[]⟩) ∧ Below B w w' := Any.Builder_String_empty Ybaf.lays169 Ybaf.Builder_Extra_169 B b w h hBw
open Go.RowKit in
theorem Ybaf.Builder_String_any (B b : Nat) (l : List UInt8) (w : World) (h : Lib.IsBuilder 43 5 B b (Lib.byteCells l) w) (hBw : B ≤ w.heap.size) :
    Calls Ybaf.prog 10 #[.pointer (some ⟨b, 0, none⟩)] w fun e w' => e = .returned (.string ⟨l.toArray⟩) ∧ Below B w w' := Any.Builder_String_any Ybaf.lays169 Ybaf.Builder_Extra_169 B b l w h hBw
open Go.RowKit in
theorem Ybaf.Builder_String_f (B b : Nat) (l : List UInt8) (w : World) (h : Lib.IsBuilderF 43 5 B b (Lib.byteCells l) w) (h0 : l ≠ []) :
    Calls Ybaf.prog 10 #[.pointer (some ⟨b, 0, none⟩)] w fun e w' => e = .returned (.string ⟨l.toArray⟩) ∧ (Lib.IsBuilderF 43 5 B b (Lib.byteCells l) w' ∧ Below B w w') := Any.Builder_String_f Ybaf.lays169 Ybaf.Builder_Extra_169 B b l w h h0
open Go.RowKit in
theorem Ybaf.Builder_String_empty_f (B b : Nat) (w : World) (h : Lib.IsBuilderF 43 5 B b [] w) (hBw : B ≤ w.heap.size) :
    Calls Ybaf.prog 10 #[.pointer (some ⟨b, 0, none⟩)] w fun e w' => e = .returned (.string ⟨#[]⟩) ∧ (Lib.IsBuilderF 43 5 B b [] w' ∧ Below B w w') := Any.Builder_String_empty_f Ybaf.lays169 Ybaf.Builder_Extra_169 B b w h hBw
open Go.RowKit in
theorem Ybaf.Builder_String_any_f (B b : Nat) (l : List UInt8) (w : World) (h : Lib.IsBuilderF 43 5 B b (Lib.byteCells l) w) (hBw : B ≤ w.heap.size) :
    Calls Ybaf.prog 10 #[.pointer (some ⟨b, 0, none⟩)] w fun e w' => e = .returned (.string ⟨l.toArray⟩) ∧ (Lib.IsBuilderF 43 5 B b (Lib.byteCells l) w' ∧ Below B w w') := Any.Builder_String_any_f Ybaf.lays169 Ybaf.Builder_Extra_169 B b l w h hBw
open Go.RowKit in
theorem Ybaf.Builder_String_k (B b : Nat) (l : List UInt8) (w : World) (h : Lib.IsBuilderF 43 5 B b (Lib.byteCells l) w) (h0 : l ≠ []) :
    Calls Ybaf.prog 10 #[.pointer (some ⟨b, 0, none⟩)] w fun e w' => e = .returned (.string ⟨l.toArray⟩) ∧ (Lib.IsBuilderF 43 5 B b (Lib.byteCells l) w' ∧ Below B w w' ∧ Lib.OthersKept 5 (some b) w w') := Any.Builder_String_k Ybaf.lays169 Ybaf.Builder_Extra_169 B b l w h h0
open Go.RowKit in
theorem Ybaf.Builder_String_empty_k (B b : Nat) (w : World) (h : Lib.IsBuilderF 43 5 B b [] w) (hBw : B ≤ w.heap.size) :
    Calls Ybaf.prog 10 #[.pointer (some ⟨b, 0, none⟩)] w fun e w' => e = .returned (.string ⟨#[]⟩) ∧ (Lib.IsBuilderF 43 5 B b [] w' ∧ Below B w w' ∧ Lib.OthersKept 5 (some b) w w') := Any.Builder_String_empty_k Ybaf.lays169 Ybaf.Builder_Extra_169 B b w h hBw
open Go.RowKit in
theorem Ybaf.Builder_String_any_k (B b : Nat) (l : List UInt8) (w : World) (h : Lib.IsBuilderF 43 5 B b (Lib.byteCells l) w) (hBw : B ≤ w.heap.size) :
    Calls Ybaf.prog 10 #[.pointer (some ⟨b, 0, none⟩)] w fun e w' => e = .returned (.string ⟨l.toArray⟩) ∧ (Lib.IsBuilderF 43 5 B b (Lib.byteCells l) w' ∧ Below B w w' ∧ Lib.OthersKept 5 (some b) w w') := Any.Builder_String_any_k Ybaf.lays169 Ybaf.Builder_Extra_169 B b l w h hBw
def Ybaf.lays129_ren : Go.Shelf.Ren := ⟨fun | 129 => 30 | n => n, fun | 53 => 48 | 3 => 3 | 4 => 4 | 46 => 25 | 5 => 5 | 9 => 9 | n => n, fun | n => n⟩
theorem Ybaf.lays129 : Go.Proofs.Lays.n129 Ybaf.prog Ybaf.lays129_ren := {
  mixed := by kernel_rfl
  f129 := Ybaf.func30.trans (congrArg some (by kernel_rfl))
  t3 := Ybaf.underlying3
  a3 := Ybaf.isAgg3
  z3 := Ybaf.sizeOf3
  v3 := Ybaf.zeroValue3
  t4 := Ybaf.underlying4
  a4 := Ybaf.isAgg4
  z4 := Ybaf.sizeOf4
  v4 := Ybaf.zeroValue4
  t5 := Ybaf.underlying5
  a5 := Ybaf.isAgg5
  z5 := Ybaf.sizeOf5
  v5 := Ybaf.zeroValue5
  t9 := Ybaf.underlying9
  a9 := Ybaf.isAgg9
  z9 := Ybaf.sizeOf9
  v9 := Ybaf.zeroValue9
  t46 := Ybaf.underlying25
  a46 := Ybaf.isAgg25
  z46 := Ybaf.sizeOf25
  v46 := Ybaf.zeroValue25
  t53 := Ybaf.underlying48
  a53 := Ybaf.isAgg48
  z53 := Ybaf.sizeOf48
  v53 := Ybaf.zeroValue48 }
theorem Ybaf.bits_Len64 (x : Int) (w : World) (h0 : 0 ≤ x) (h1 : x ≤ 18446744073709551615) :
    Calls Ybaf.prog 30 #[.int .u64 x] w fun e w' => e = .returned (.int .i64 (Lib.bitLen x.toNat)) ∧ w' = w := Any.bits_Len64 Ybaf.lays129 x w h0 h1
def Ybaf.lays317_ren : Go.Shelf.Ren := ⟨fun | 317 => 29 | n => n, fun | 3 => 3 | 46 => 25 | n => n, fun | n => n⟩
theorem Ybaf.lays317 : Go.Proofs.Lays.n317 Ybaf.prog Ybaf.lays317_ren := {
  mixed := by kernel_rfl
  f317 := Ybaf.func29.trans (congrArg some (by kernel_rfl))
  t3 := Ybaf.underlying3
  a3 := Ybaf.isAgg3
  z3 := Ybaf.sizeOf3
  v3 := Ybaf.zeroValue3
  t46 := Ybaf.underlying25
  a46 := Ybaf.isAgg25
  z46 := Ybaf.sizeOf25
  v46 := Ybaf.zeroValue25 }
open Go.Lib in
theorem Ybaf.internal_strconv_log10Pow2 (x : Nat) (h : x ≤ 64) (w : World) :
    Calls Ybaf.prog 29 #[.int .i64 x] w fun e w' => e = .returned (.int .i64 (Lib.l10 x)) ∧ w' = w := Any.internal_strconv_log10Pow2 Ybaf.lays317 x h w
def Ybaf.lays318_ren : Go.Shelf.Ren := ⟨fun | 318 => 31 | n => n, fun | 3 => 3 | 4 => 4 | n => n, fun | n => n⟩
theorem Ybaf.lays318 : Go.Proofs.Lays.n318 Ybaf.prog Ybaf.lays318_ren := {
  mixed := by kernel_rfl
  f318 := Ybaf.func31.trans (congrArg some (by kernel_rfl))
  t3 := Ybaf.underlying3
  a3 := Ybaf.isAgg3
  z3 := Ybaf.sizeOf3
  v3 := Ybaf.zeroValue3
  t4 := Ybaf.underlying4
  a4 := Ybaf.isAgg4
  z4 := Ybaf.sizeOf4
  v4 := Ybaf.zeroValue4 }
open Go.Lib in
theorem Ybaf.internal_strconv_bool2_int (b : Bool) (w : World) :
    Calls Ybaf.prog 31 #[.bool b] w fun e w' => e = .returned (.int .i64 (if b then 1 else 0)) ∧ w' = w := Any.internal_strconv_bool2_int Ybaf.lays318 b w
def Ybaf.lays283_ren : Go.Shelf.Ren := ⟨fun | 283 => 25 | n => n, fun | 3 => 3 | 9 => 9 | 4 => 4 | n => n, fun | n => n⟩
theorem Ybaf.lays283 : Go.Proofs.Lays.n283 Ybaf.prog Ybaf.lays283_ren := {
  mixed := by kernel_rfl
  f283 := Ybaf.func25.trans (congrArg some (by kernel_rfl))
  t3 := Ybaf.underlying3
  a3 := Ybaf.isAgg3
  z3 := Ybaf.sizeOf3
  v3 := Ybaf.zeroValue3
  t4 := Ybaf.underlying4
  a4 := Ybaf.isAgg4
  z4 := Ybaf.sizeOf4
  v4 := Ybaf.zeroValue4
  t9 := Ybaf.underlying9
  a9 := Ybaf.isAgg9
  z9 := Ybaf.sizeOf9
  v9 := Ybaf.zeroValue9 }
open Go.Lib in
theorem Ybaf.internal_strconv_small (i : Nat) (h : i < 100) (w : World) :
    Calls Ybaf.prog 25 #[.int .i64 i] w fun e w' => e = .returned (.string ⟨(Lib.decDigits i).toArray⟩) ∧ w' = w := Any.internal_strconv_small Ybaf.lays283 i h w
def Ybaf.laysM284_ren : Go.Shelf.Ren := ⟨fun | 284 => 26 | 129 => 30 | 317 => 29 | 318 => 31 | n => n, fun | 53 => 48 | 3 => 3 | 212 => 72 | 0 => 0 | 4 => 4 | 46 => 25 | 5 => 5 | 9 => 9 | n => n, fun | 17 => 0 | n => n⟩
theorem Ybaf.laysM284 : Go.Proofs.LaysM.n284 Ybaf.prog Ybaf.laysM284_ren := {
  mixed := by kernel_rfl
  f129 := Ybaf.func30.trans (congrArg some (by kernel_rfl))
  f284 := Ybaf.func26.trans (congrArg some (by kernel_rfl))
  f317 := Ybaf.func29.trans (congrArg some (by kernel_rfl))
  f318 := Ybaf.func31.trans (congrArg some (by kernel_rfl))
  t0 := Ybaf.underlying0
  a0 := Ybaf.isAgg0
  z0 := Ybaf.sizeOf0
  v0 := Ybaf.zeroValue0
  t3 := Ybaf.underlying3
  a3 := Ybaf.isAgg3
  z3 := Ybaf.sizeOf3
  v3 := Ybaf.zeroValue3
  t4 := Ybaf.underlying4
  a4 := Ybaf.isAgg4
  z4 := Ybaf.sizeOf4
  v4 := Ybaf.zeroValue4
  t5 := Ybaf.underlying5
  a5 := Ybaf.isAgg5
  z5 := Ybaf.sizeOf5
  v5 := Ybaf.zeroValue5
  t9 := Ybaf.underlying9
  a9 := Ybaf.isAgg9
  z9 := Ybaf.sizeOf9
  v9 := Ybaf.zeroValue9
  t46 := Ybaf.underlying25
  a46 := Ybaf.isAgg25
  z46 := Ybaf.sizeOf25
  v46 := Ybaf.zeroValue25
  t53 := Ybaf.underlying48
  a53 := Ybaf.isAgg48
  z53 := Ybaf.sizeOf48
  v53 := Ybaf.zeroValue48
  t212 := Ybaf.underlying72
  a212 := Ybaf.isAgg72
  z212 := Ybaf.sizeOf72
  v212 := Ybaf.zeroValue72
  g17 := by kernel_rfl
  i0 := by kernel_rfl
  i3 := by kernel_rfl
  i4 := by kernel_rfl
  i5 := by kernel_rfl
  i9 := by kernel_rfl
  i46 := by kernel_rfl
  i53 := by kernel_rfl
  i212 := by kernel_rfl
  m17 := by kernel_rfl }
open Go.Lib in
theorem Ybaf.internal_strconv_numDigits (u : Nat) (h1 : 1 ≤ u) (h2 : u < 18446744073709551616) (w : World) (htab : Lib.TabIs Ybaf.prog w "internal/strconv.uint64pow10" .u64 Lib.pow10Tab) :
    Calls Ybaf.prog 26 #[.int .u64 u] w fun e w' => e = .returned (.int .i64 (Lib.nDigits u)) ∧ w' = w := Any.internal_strconv_numDigits Ybaf.laysM284 u h1 h2 w htab
def Ybaf.lays285_ren : Go.Shelf.Ren := ⟨fun | 285 => 27 | n => n, fun | 37 => 37 | 53 => 48 | 3 => 3 | 4 => 4 | 51 => 73 | 9 => 9 | 5 => 5 | 0 => 0 | n => n, fun | n => n⟩
theorem Ybaf.lays285 : Go.Proofs.Lays.n285 Ybaf.prog Ybaf.lays285_ren := {
  mixed := by kernel_rfl
  f285 := Ybaf.func27.trans (congrArg some (by kernel_rfl))
  t0 := Ybaf.underlying0
  a0 := Ybaf.isAgg0
  z0 := Ybaf.sizeOf0
  v0 := Ybaf.zeroValue0
  t3 := Ybaf.underlying3
  a3 := Ybaf.isAgg3
  z3 := Ybaf.sizeOf3
  v3 := Ybaf.zeroValue3
  t4 := Ybaf.underlying4
  a4 := Ybaf.isAgg4
  z4 := Ybaf.sizeOf4
  v4 := Ybaf.zeroValue4
  t5 := Ybaf.underlying5
  a5 := Ybaf.isAgg5
  z5 := Ybaf.sizeOf5
  v5 := Ybaf.zeroValue5
  t9 := Ybaf.underlying9
  a9 := Ybaf.isAgg9
  z9 := Ybaf.sizeOf9
  v9 := Ybaf.zeroValue9
  t37 := Ybaf.underlying37
  a37 := Ybaf.isAgg37
  z37 := Ybaf.sizeOf37
  v37 := Ybaf.zeroValue37
  t51 := Ybaf.underlying73
  a51 := Ybaf.isAgg73
  z51 := Ybaf.sizeOf73
  v51 := Ybaf.zeroValue73
  t53 := Ybaf.underlying48
  a53 := Ybaf.isAgg48
  z53 := Ybaf.sizeOf48
  v53 := Ybaf.zeroValue48 }
open Go.RowKit Go.Sort Go.Lib in
theorem Ybaf.internal_strconv_formatBase10 (blk off cap : Nat) (u : Nat) (d : Array UInt8) (w : World) (hH : Holds (fun (b : UInt8) => Value.int .u8 (b.toNat : Int)) w blk off d) (hu : u < 10 ^ d.size) (hu64 : u < 18446744073709551616) (hsz : d.size < 4611686018427387904) :
    Calls Ybaf.prog 27 #[.slice (some ⟨blk, off, none⟩) d.size cap, .int .u64 u] w fun e w' =>
      e = .returned (.tuple #[]) ∧ ∃ (n v' : Nat) (dk : Array UInt8), w' = (putRow (fun (b : UInt8) => Value.int .u8 (b.toNat : Int)) w blk off dk).drewN n ∧ FmtInv d.size u 0 v' dk := Any.internal_strconv_formatBase10 Ybaf.lays285 blk off cap u d w hH hu hu64 hsz
def Ybaf.laysM246_ren : Go.Shelf.Ren := ⟨fun | 246 => 23 | 283 => 25 | 284 => 26 | 285 => 27 | 286 => 28 | 129 => 30 | 317 => 29 | 318 => 31 | 319 => 32 | 320 => 33 | 337 => 34 | 338 => 35 | n => n, fun | 2 => 2 | 3 => 3 | 9 => 9 | 4 => 4 | 171 => 65 | 0 => 0 | 53 => 48 | 37 => 37 | 5 => 5 | 173 => 68 | 212 => 72 | 51 => 73 | 20 => 20 | 213 => 74 | 46 => 25 | 232 => 78 | 233 => 79 | n => n, fun | 17 => 0 | 18 => 1 | 19 => 2 | n => n⟩
theorem Ybaf.laysM246 : Go.Proofs.LaysM.n246 Ybaf.prog Ybaf.laysM246_ren := {
  mixed := by kernel_rfl
  f129 := Ybaf.func30.trans (congrArg some (by kernel_rfl))
  f246 := Ybaf.func23.trans (congrArg some (by kernel_rfl))
  f283 := Ybaf.func25.trans (congrArg some (by kernel_rfl))
  f284 := Ybaf.func26.trans (congrArg some (by kernel_rfl))
  f285 := Ybaf.func27.trans (congrArg some (by kernel_rfl))
  f286 := Ybaf.func28.trans (congrArg some (by kernel_rfl))
  f317 := Ybaf.func29.trans (congrArg some (by kernel_rfl))
  f318 := Ybaf.func31.trans (congrArg some (by kernel_rfl))
  f319 := Ybaf.func32.trans (congrArg some (by kernel_rfl))
  f320 := Ybaf.func33.trans (congrArg some (by kernel_rfl))
  f337 := Ybaf.func34.trans (congrArg some (by kernel_rfl))
  f338 := Ybaf.func35.trans (congrArg some (by kernel_rfl))
  t0 := Ybaf.underlying0
  a0 := Ybaf.isAgg0
  z0 := Ybaf.sizeOf0
  v0 := Ybaf.zeroValue0
  t2 := Ybaf.underlying2
  a2 := Ybaf.isAgg2
  z2 := Ybaf.sizeOf2
  v2 := Ybaf.zeroValue2
  t3 := Ybaf.underlying3
  a3 := Ybaf.isAgg3
  z3 := Ybaf.sizeOf3
  v3 := Ybaf.zeroValue3
  t4 := Ybaf.underlying4
  a4 := Ybaf.isAgg4
  z4 := Ybaf.sizeOf4
  v4 := Ybaf.zeroValue4
  t5 := Ybaf.underlying5
  a5 := Ybaf.isAgg5
  z5 := Ybaf.sizeOf5
  v5 := Ybaf.zeroValue5
  t9 := Ybaf.underlying9
  a9 := Ybaf.isAgg9
  z9 := Ybaf.sizeOf9
  v9 := Ybaf.zeroValue9
  t20 := Ybaf.underlying20
  a20 := Ybaf.isAgg20
  z20 := Ybaf.sizeOf20
  v20 := Ybaf.zeroValue20
  t37 := Ybaf.underlying37
  a37 := Ybaf.isAgg37
  z37 := Ybaf.sizeOf37
  v37 := Ybaf.zeroValue37
  t46 := Ybaf.underlying25
  a46 := Ybaf.isAgg25
  z46 := Ybaf.sizeOf25
  v46 := Ybaf.zeroValue25
  t51 := Ybaf.underlying73
  a51 := Ybaf.isAgg73
  z51 := Ybaf.sizeOf73
  v51 := Ybaf.zeroValue73
  t53 := Ybaf.underlying48
  a53 := Ybaf.isAgg48
  z53 := Ybaf.sizeOf48
  v53 := Ybaf.zeroValue48
  t171 := Ybaf.underlying65
  a171 := Ybaf.isAgg65
  z171 := Ybaf.sizeOf65
  v171 := Ybaf.zeroValue65
  t173 := Ybaf.underlying68
  a173 := Ybaf.isAgg68
  z173 := Ybaf.sizeOf68
  v173 := Ybaf.zeroValue68
  t212 := Ybaf.underlying72
  a212 := Ybaf.isAgg72
  z212 := Ybaf.sizeOf72
  v212 := Ybaf.zeroValue72
  t213 := Ybaf.underlying74
  a213 := Ybaf.isAgg74
  z213 := Ybaf.sizeOf74
  t232 := Ybaf.underlying78
  a232 := Ybaf.isAgg78
  z232 := Ybaf.sizeOf78
  v232 := Ybaf.zeroValue78
  t233 := Ybaf.underlying79
  a233 := Ybaf.isAgg79
  z233 := Ybaf.sizeOf79
  v233 := Ybaf.zeroValue79
  g17 := by kernel_rfl
  g18 := by kernel_rfl
  g19 := by kernel_rfl
  i0 := by kernel_rfl
  i2 := by kernel_rfl
  i3 := by kernel_rfl
  i4 := by kernel_rfl
  i5 := by kernel_rfl
  i9 := by kernel_rfl
  i20 := by kernel_rfl
  i37 := by kernel_rfl
  i46 := by kernel_rfl
  i51 := by kernel_rfl
  i53 := by kernel_rfl
  i171 := by kernel_rfl
  i173 := by kernel_rfl
  i212 := by kernel_rfl
  i232 := by kernel_rfl
  i233 := by kernel_rfl
  m17 := by kernel_rfl
  m18 := by kernel_rfl
  m19 := by kernel_rfl }
open Go.RowKit Go.Sort Go.Lib in
theorem Ybaf.internal_strconv_FormatInt_10 (n : Int) (h0 : -9223372036854775808 ≤ n) (h1 : n ≤ 9223372036854775807) (w : World) (htab : Lib.TabIs Ybaf.prog w "internal/strconv.uint64pow10" .u64 Lib.pow10Tab) :
    Calls Ybaf.prog 23 #[.int .i64 n, .int .i64 10] w fun e w' => e = .returned (.string ⟨(Lib.itoa n).toArray⟩) ∧ ∃ k os, w' = grow (w.drewN k) os := Any.internal_strconv_FormatInt_10 Ybaf.laysM246 n h0 h1 w htab
def Ybaf.lays246_ren : Go.Shelf.Ren := ⟨fun | 246 => 23 | 283 => 25 | 284 => 26 | 285 => 27 | 286 => 28 | 129 => 30 | 317 => 29 | 318 => 31 | 319 => 32 | 320 => 33 | 337 => 34 | 338 => 35 | n => n, fun | 2 => 2 | 3 => 3 | 9 => 9 | 4 => 4 | 171 => 65 | 0 => 0 | 53 => 48 | 37 => 37 | 5 => 5 | 173 => 68 | 212 => 72 | 51 => 73 | 20 => 20 | 213 => 74 | 46 => 25 | 232 => 78 | 233 => 79 | n => n, fun | 17 => 0 | 18 => 1 | 19 => 2 | n => n⟩
theorem Ybaf.lays246 : Go.Proofs.Lays.n246 Ybaf.prog Ybaf.lays246_ren := {
  mixed := by kernel_rfl
  f129 := Ybaf.func30.trans (congrArg some (by kernel_rfl))
  f246 := Ybaf.func23.trans (congrArg some (by kernel_rfl))
  f283 := Ybaf.func25.trans (congrArg some (by kernel_rfl))
  f284 := Ybaf.func26.trans (congrArg some (by kernel_rfl))
  f285 := Ybaf.func27.trans (congrArg some (by kernel_rfl))
  f286 := Ybaf.func28.trans (congrArg some (by kernel_rfl))
  f317 := Ybaf.func29.trans (congrArg some (by kernel_rfl))
  f318 := Ybaf.func31.trans (congrArg some (by kernel_rfl))
  f319 := Ybaf.func32.trans (congrArg some (by kernel_rfl))
  f320 := Ybaf.func33.trans (congrArg some (by kernel_rfl))
  f337 := Ybaf.func34.trans (congrArg some (by kernel_rfl))
  f338 := Ybaf.func35.trans (congrArg some (by kernel_rfl))
  t0 := Ybaf.underlying0
  a0 := Ybaf.isAgg0
  z0 := Ybaf.sizeOf0
  v0 := Ybaf.zeroValue0
  t2 := Ybaf.underlying2
  a2 := Ybaf.isAgg2
  z2 := Ybaf.sizeOf2
  v2 := Ybaf.zeroValue2
  t3 := Ybaf.underlying3
  a3 := Ybaf.isAgg3
  z3 := Ybaf.sizeOf3
  v3 := Ybaf.zeroValue3
  t4 := Ybaf.underlying4
  a4 := Ybaf.isAgg4
  z4 := Ybaf.sizeOf4
  v4 := Ybaf.zeroValue4
  t5 := Ybaf.underlying5
  a5 := Ybaf.isAgg5
  z5 := Ybaf.sizeOf5
  v5 := Ybaf.zeroValue5
  t9 := Ybaf.underlying9
  a9 := Ybaf.isAgg9
  z9 := Ybaf.sizeOf9
  v9 := Ybaf.zeroValue9
  t20 := Ybaf.underlying20
  a20 := Ybaf.isAgg20
  z20 := Ybaf.sizeOf20
  v20 := Ybaf.zeroValue20
  t37 := Ybaf.underlying37
  a37 := Ybaf.isAgg37
  z37 := Ybaf.sizeOf37
  v37 := Ybaf.zeroValue37
  t46 := Ybaf.underlying25
  a46 := Ybaf.isAgg25
  z46 := Ybaf.sizeOf25
  v46 := Ybaf.zeroValue25
  t51 := Ybaf.underlying73
  a51 := Ybaf.isAgg73
  z51 := Ybaf.sizeOf73
  v51 := Ybaf.zeroValue73
  t53 := Ybaf.underlying48
  a53 := Ybaf.isAgg48
  z53 := Ybaf.sizeOf48
  v53 := Ybaf.zeroValue48
  t171 := Ybaf.underlying65
  a171 := Ybaf.isAgg65
  z171 := Ybaf.sizeOf65
  v171 := Ybaf.zeroValue65
  t173 := Ybaf.underlying68
  a173 := Ybaf.isAgg68
  z173 := Ybaf.sizeOf68
  v173 := Ybaf.zeroValue68
  t212 := Ybaf.underlying72
  a212 := Ybaf.isAgg72
  z212 := Ybaf.sizeOf72
  v212 := Ybaf.zeroValue72
  t213 := Ybaf.underlying74
  a213 := Ybaf.isAgg74
  z213 := Ybaf.sizeOf74
  t232 := Ybaf.underlying78
  a232 := Ybaf.isAgg78
  z232 := Ybaf.sizeOf78
  v232 := Ybaf.zeroValue78
  t233 := Ybaf.underlying79
  a233 := Ybaf.isAgg79
  z233 := Ybaf.sizeOf79
  v233 := Ybaf.zeroValue79
  g17 := by kernel_rfl
  g18 := by kernel_rfl
  g19 := by kernel_rfl }
open Go.RowKit Go.Sort Go.Lib in
theorem Ybaf.internal_strconv_FormatInt_10_small (i : Nat) (hi : i < 100) (w : World) :
    Calls Ybaf.prog 23 #[.int .i64 i, .int .i64 10] w fun e w' => e = .returned (.string ⟨(Lib.decDigits i).toArray⟩) ∧ w' = w := Any.internal_strconv_FormatInt_10_small Ybaf.lays246 i hi w
def Ybaf.laysM173_ren : Go.Shelf.Ren := ⟨fun | 173 => 18 | 246 => 23 | 283 => 25 | 284 => 26 | 285 => 27 | 286 => 28 | 129 => 30 | 317 => 29 | 318 => 31 | 319 => 32 | 320 => 33 | 337 => 34 | 338 => 35 | n => n, fun | 2 => 2 | 3 => 3 | 9 => 9 | 4 => 4 | 171 => 65 | 0 => 0 | 53 => 48 | 37 => 37 | 5 => 5 | 173 => 68 | 212 => 72 | 51 => 73 | 20 => 20 | 213 => 74 | 46 => 25 | 232 => 78 | 233 => 79 | n => n, fun | 17 => 0 | 18 => 1 | 19 => 2 | n => n⟩
theorem Ybaf.laysM173 : Go.Proofs.LaysM.n173 Ybaf.prog Ybaf.laysM173_ren := {
  mixed := by kernel_rfl
  f129 := Ybaf.func30.trans (congrArg some (by kernel_rfl))
  f173 := Ybaf.func18.trans (congrArg some (by kernel_rfl))
  f246 := Ybaf.func23.trans (congrArg some (by kernel_rfl))
  f283 := Ybaf.func25.trans (congrArg some (by kernel_rfl))
  f284 := Ybaf.func26.trans (congrArg some (by kernel_rfl))
  f285 := Ybaf.func27.trans (congrArg some (by kernel_rfl))
  f286 := Ybaf.func28.trans (congrArg some (by kernel_rfl))
  f317 := Ybaf.func29.trans (congrArg some (by kernel_rfl))
  f318 := Ybaf.func31.trans (congrArg some (by kernel_rfl))
  f319 := Ybaf.func32.trans (congrArg some (by kernel_rfl))
  f320 := Ybaf.func33.trans (congrArg some (by kernel_rfl))
  f337 := Ybaf.func34.trans (congrArg some (by kernel_rfl))
  f338 := Ybaf.func35.trans (congrArg some (by kernel_rfl))
  t0 := Ybaf.underlying0
  a0 := Ybaf.isAgg0
  z0 := Ybaf.sizeOf0
  v0 := Ybaf.zeroValue0
  t2 := Ybaf.underlying2
  a2 := Ybaf.isAgg2
  z2 := Ybaf.sizeOf2
  v2 := Ybaf.zeroValue2
  t3 := Ybaf.underlying3
  a3 := Ybaf.isAgg3
  z3 := Ybaf.sizeOf3
  v3 := Ybaf.zeroValue3
  t4 := Ybaf.underlying4
  a4 := Ybaf.isAgg4
  z4 := Ybaf.sizeOf4
  v4 := Ybaf.zeroValue4
  t5 := Ybaf.underlying5
  a5 := Ybaf.isAgg5
  z5 := Ybaf.sizeOf5
  v5 := Ybaf.zeroValue5
  t9 := Ybaf.underlying9
  a9 := Ybaf.isAgg9
  z9 := Ybaf.sizeOf9
  v9 := Ybaf.zeroValue9
  t20 := Ybaf.underlying20
  a20 := Ybaf.isAgg20
  z20 := Ybaf.sizeOf20
  v20 := Ybaf.zeroValue20
  t37 := Ybaf.underlying37
  a37 := Ybaf.isAgg37
  z37 := Ybaf.sizeOf37
  v37 := Ybaf.zeroValue37
  t46 := Ybaf.underlying25
  a46 := Ybaf.isAgg25
  z46 := Ybaf.sizeOf25
  v46 := Ybaf.zeroValue25
  t51 := Ybaf.underlying73
  a51 := Ybaf.isAgg73
  z51 := Ybaf.sizeOf73
  v51 := Ybaf.zeroValue73
  t53 := Ybaf.underlying48
  a53 := Ybaf.isAgg48
  z53 := Ybaf.sizeOf48
  v53 := Ybaf.zeroValue48
  t171 := Ybaf.underlying65
  a171 := Ybaf.isAgg65
  z171 := Ybaf.sizeOf65
  v171 := Ybaf.zeroValue65
  t173 := Ybaf.underlying68
  a173 := Ybaf.isAgg68
  z173 := Ybaf.sizeOf68
  v173 := Ybaf.zeroValue68
  t212 := Ybaf.underlying72
  a212 := Ybaf.isAgg72
  z212 := Ybaf.sizeOf72
  v212 := Ybaf.zeroValue72
  t213 := Ybaf.underlying74
  a213 := Ybaf.isAgg74
  z213 := Ybaf.sizeOf74
  t232 := Ybaf.underlying78
  a232 := Ybaf.isAgg78
  z232 := Ybaf.sizeOf78
  v232 := Ybaf.zeroValue78
  t233 := Ybaf.underlying79
  a233 := Ybaf.isAgg79
  z233 := Ybaf.sizeOf79
  v233 := Ybaf.zeroValue79
  g17 := by kernel_rfl
  g18 := by kernel_rfl
  g19 := by kernel_rfl
  i0 := by kernel_rfl
  i2 := by kernel_rfl
  i3 := by kernel_rfl
  i4 := by kernel_rfl
  i5 := by kernel_rfl
  i9 := by kernel_rfl
  i20 := by kernel_rfl
  i37 := by kernel_rfl
  i46 := by kernel_rfl
  i51 := by kernel_rfl
  i53 := by kernel_rfl
  i171 := by kernel_rfl
  i173 := by kernel_rfl
  i212 := by kernel_rfl
  i232 := by kernel_rfl
  i233 := by kernel_rfl
  m17 := by kernel_rfl
  m18 := by kernel_rfl
  m19 := by kernel_rfl }
open Go.RowKit Go.Sort Go.Lib in
theorem Ybaf.strconv_FormatInt_10 (n : Int) (h0 : -9223372036854775808 ≤ n) (h1 : n ≤ 9223372036854775807) (w : World) (htab : Lib.TabIs Ybaf.prog w "internal/strconv.uint64pow10" .u64 Lib.pow10Tab) :
    Calls Ybaf.prog 18 #[.int .i64 n, .int .i64 10] w fun e w' => e = .returned (.string ⟨(Lib.itoa n).toArray⟩) ∧ ∃ k os, w' = grow (w.drewN k) os := Any.strconv_FormatInt_10 Ybaf.laysM173 n h0 h1 w htab
def Ybaf.lays173_ren : Go.Shelf.Ren := ⟨fun | 173 => 18 | 246 => 23 | 283 => 25 | 284 => 26 | 285 => 27 | 286 => 28 | 129 => 30 | 317 => 29 | 318 => 31 | 319 => 32 | 320 => 33 | 337 => 34 | 338 => 35 | n => n, fun | 2 => 2 | 3 => 3 | 9 => 9 | 4 => 4 | 171 => 65 | 0 => 0 | 53 => 48 | 37 => 37 | 5 => 5 | 173 => 68 | 212 => 72 | 51 => 73 | 20 => 20 | 213 => 74 | 46 => 25 | 232 => 78 | 233 => 79 | n => n, fun | 17 => 0 | 18 => 1 | 19 => 2 | n => n⟩
theorem Ybaf.lays173 : Go.Proofs.Lays.n173 Ybaf.prog Ybaf.lays173_ren := {
  mixed := by kernel_rfl
  f129 := Ybaf.func30.trans (congrArg some (by kernel_rfl))
  f173 := Ybaf.func18.trans (congrArg some (by kernel_rfl))
  f246 := Ybaf.func23.trans (congrArg some (by kernel_rfl))
  f283 := Ybaf.func25.trans (congrArg some (by kernel_rfl))
  f284 := Ybaf.func26.trans (congrArg some (by kernel_rfl))
  f285 := Ybaf.func27.trans (congrArg some (by kernel_rfl))
  f286 := Ybaf.func28.trans (congrArg some (by kernel_rfl))
  f317 := Ybaf.func29.trans (congrArg some (by kernel_rfl))
  f318 := Ybaf.func31.trans (congrArg some (by kernel_rfl))
  f319 := Ybaf.func32.trans (congrArg some (by kernel_rfl))
  f320 := Ybaf.func33.trans (congrArg some (by kernel_rfl))
  f337 := Ybaf.func34.trans (congrArg some (by kernel_rfl))
  f338 := Ybaf.func35.trans (congrArg some (by kernel_rfl))
  t0 := Ybaf.underlying0
  a0 := Ybaf.isAgg0
  z0 := Ybaf.sizeOf0
  v0 := Ybaf.zeroValue0
  t2 := Ybaf.underlying2
  a2 := Ybaf.isAgg2
  z2 := Ybaf.sizeOf2
  v2 := Ybaf.zeroValue2
  t3 := Ybaf.underlying3
  a3 := Ybaf.isAgg3
  z3 := Ybaf.sizeOf3
  v3 := Ybaf.zeroValue3
  t4 := Ybaf.underlying4
  a4 := Ybaf.isAgg4
  z4 := Ybaf.sizeOf4
  v4 := Ybaf.zeroValue4
  t5 := Ybaf.underlying5
  a5 := Ybaf.isAgg5
  z5 := Ybaf.sizeOf5
  v5 := Ybaf.zeroValue5
  t9 := Ybaf.underlying9
  a9 := Ybaf.isAgg9
  z9 := Ybaf.sizeOf9
  v9 := Ybaf.zeroValue9
  t20 := Ybaf.underlying20
  a20 := Ybaf.isAgg20
  z20 := Ybaf.sizeOf20
  v20 := Ybaf.zeroValue20
  t37 := Ybaf.underlying37
  a37 := Ybaf.isAgg37
  z37 := Ybaf.sizeOf37
  v37 := Ybaf.zeroValue37
  t46 := Ybaf.underlying25
  a46 := Ybaf.isAgg25
  z46 := Ybaf.sizeOf25
  v46 := Ybaf.zeroValue25
  t51 := Ybaf.underlying73
  a51 := Ybaf.isAgg73
  z51 := Ybaf.sizeOf73
  v51 := Ybaf.zeroValue73
  t53 := Ybaf.underlying48
  a53 := Ybaf.isAgg48
  z53 := Ybaf.sizeOf48
  v53 := Ybaf.zeroValue48
  t171 := Ybaf.underlying65
  a171 := Ybaf.isAgg65
  z171 := Ybaf.sizeOf65
  v171 := Ybaf.zeroValue65
  t173 := Ybaf.underlying68
  a173 := Ybaf.isAgg68
  z173 := Ybaf.sizeOf68
  v173 := Ybaf.zeroValue68
  t212 := Ybaf.underlying72
  a212 := Ybaf.isAgg72
  z212 := Ybaf.sizeOf72
  v212 := Ybaf.zeroValue72
  t213 := Ybaf.underlying74
  a213 := Ybaf.isAgg74
  z213 := Ybaf.sizeOf74
  t232 := Ybaf.underlying78
  a232 := Ybaf.isAgg78
  z232 := Ybaf.sizeOf78
  v232 := Ybaf.zeroValue78
  t233 := Ybaf.underlying79
  a233 := Ybaf.isAgg79
  z233 := Ybaf.sizeOf79
  v233 := Ybaf.zeroValue79
  g17 := by kernel_rfl
  g18 := by kernel_rfl
  g19 := by kernel_rfl }
open Go.RowKit Go.Sort Go.Lib in
theorem Ybaf.strconv_FormatInt_10_small (i : Nat) (hi : i < 100) (w : World) :
    Calls Ybaf.prog 18 #[.int .i64 i, .int .i64 10] w fun e w' => e = .returned (.string ⟨(Lib.decDigits i).toArray⟩) ∧ w' = w := Any.strconv_FormatInt_10_small Ybaf.lays173 i hi w
def Ybaf.cloneL_ren : Go.Shelf.Ren := ⟨fun | 41 => 4 | n => n, fun | 22 => 26 | 23 => 29 | 4 => 4 | n => n, fun | n => n⟩
theorem Ybaf.cloneL : Go.Proofs.SlLaysE0.n41 Ybaf.prog Ybaf.cloneL_ren := {
  mixed := by kernel_rfl
  f41 := ⟨Ybaf.f4.name, by decide, Ybaf.func4.trans (congrArg some (by kernel_rfl))⟩
  t4 := Ybaf.underlying4
  a4 := Ybaf.isAgg4
  z4 := Ybaf.sizeOf4
  v4 := Ybaf.zeroValue4
  t22 := Ybaf.underlying26
  a22 := Ybaf.isAgg26
  z22 := Ybaf.sizeOf26
  v22 := Ybaf.zeroValue26 }
def Ybaf.equalL_ren : Go.Shelf.Ren := ⟨fun | 8 => 7 | n => n, fun | 22 => 26 | 24 => 29 | 4 => 4 | 3 => 3 | 0 => 0 | n => n, fun | n => n⟩
theorem Ybaf.equalL : Go.Proofs.SlLaysQ.n8 Ybaf.prog Ybaf.equalL_ren := {
  mixed := by kernel_rfl
  f8 := ⟨Ybaf.f7.name, by decide, Ybaf.func7.trans (congrArg some (by kernel_rfl))⟩
  t0 := Ybaf.underlying0
  a0 := Ybaf.isAgg0
  z0 := Ybaf.sizeOf0
  v0 := Ybaf.zeroValue0
  t3 := Ybaf.underlying3
  a3 := Ybaf.isAgg3
  z3 := Ybaf.sizeOf3
  v3 := Ybaf.zeroValue3
  t4 := Ybaf.underlying4
  a4 := Ybaf.isAgg4
  z4 := Ybaf.sizeOf4
  v4 := Ybaf.zeroValue4
  t22 := Ybaf.underlying26
  a22 := Ybaf.isAgg26
  z22 := Ybaf.sizeOf26
  v22 := Ybaf.zeroValue26 }
end Go.Proofs
