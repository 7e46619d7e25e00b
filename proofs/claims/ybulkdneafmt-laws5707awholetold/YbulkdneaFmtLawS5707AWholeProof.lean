/- THE CARD 'Rows.LawS5707AWholeToldSaid', PROVED. The frame: the guide's told row over one table under 'laid', turned to this program's three tables and a slice of values. fmt is never asked on this law's road. -/
import Derived.Test.YbulkdneaFmtLaw
import Derived.ProofKit
import Derived.OpenShut
import Derived.ChangeOld
import Derived.Below
import Derived.Stop.JoinedAt
import Derived.Stop.JoinedTold
import Derived.Stop.LaidErr
import Derived.Lib.LaidTab
import Derived.Lib.LaidIn
import Derived.SevenTiedAt
namespace Go.Proofs.YbulkdneaFmt.lawS5707AWhole
open Go.ChangeShapes Go.WideShapes Go.ChangeAt Go.RowKit Go.Kit
open Go.Extern.Stop Go.Stop Go.Extern
set_option linter.unusedVariables false

theorem own : ownKnob Ybaf.prog.godebug = none := by kernel_rfl
theorem laidOut : laidOutB Ybaf.prog = true := by kernel_rfl
theorem gT : Ybaf.prog.globalNamed "internal/strconv.uint64pow10" = some 0 := by kernel_rfl
theorem gTType : (Ybaf.prog.globals[0]?).map (·.type) = some 72 := by kernel_rfl
theorem pow10_is : (Rows.laid_internal_strconv_uint64pow10 : DataW Unit) = Lib.tabData .u64 Lib.pow10Tab := by kernel_rfl

def tab32 : List Int := [0, 1, 28, 2, 29, 14, 24, 3, 30, 22, 20, 15, 25, 17, 4, 8, 31, 27, 13, 23, 21, 19, 16, 7, 26, 12, 18, 6, 11, 5, 10, 9]
def tab64 : List Int := [0, 1, 56, 2, 57, 49, 28, 3, 61, 58, 42, 50, 38, 29, 17, 4, 62, 47, 59, 36, 45, 43, 51, 22, 53, 39, 33, 30, 24, 18, 12, 5, 63, 55, 48, 27, 60, 41, 37, 16, 46, 35, 44, 21, 52, 32, 23, 11, 54, 26, 40, 15, 34, 20, 31, 10, 25, 14, 19, 9, 13, 8, 7, 6]
/-- The three tables laid over a settled world. -/
def lay3 (w0 : World) : World :=
  { w0 with heap := ((w0.heap.modify 0 fun
      | .cells _ t frozen => .cells (Lib.pow10Tab.map fun z => Value.int .u64 z).toArray t frozen
      | o => o).modify 1 fun
      | .cells _ t frozen => .cells (tab32.map fun z => Value.int .u8 z).toArray t frozen
      | o => o).modify 2 fun
      | .cells _ t frozen => .cells (tab64.map fun z => Value.int .u8 z).toArray t frozen
      | o => o }

set_option maxRecDepth 100000 in
theorem laid_met (os : Os) (args : Array Value) : laidMet Ybaf.prog Rows.lawS5707AWholeRow.laid (((lay3 (World.holding Ybaf.prog os ⟨#[], #[], []⟩))).forCall (fun _ _ => 0) ⟨#[], args, []⟩).memory :=
  (LaidIn.of_run [0, 1, 2] 8 (by kernel_rfl) (by kernel_rfl) (by kernel_rfl) (by kernel_rfl)).met

theorem walk (a0 a2 : Int) (a1 : Option Addr) (nv cap : Nat) (w : World) (w0 : (Lit.int .u8 a0).wf = true) (w1 : nv ≤ maxLen ∧ ∃ vs : List VV, vs.length = nv ∧ (nv = 0 ∨ ∃ b o, a1 = some ⟨b, o, none⟩ ∧ b < w.heap.size ∧ ValsAt w b o vs) ∧ ∀ v ∈ vs, v.2.size ≤ reachBytes ∧ (Lit.int .i64 v.1.2).wf = true) (htab : Tab w) :
    Calls Ybaf.prog 3 #[.int .u8 a0, .slice a1 nv cap, .int .i64 a2] w fun e w' => e = .returned (.bool true) ∧ Below w.heap.size w w' := by
  obtain ⟨hm, vs, hl, hA, hS⟩ := w1
  by_cases h : 65536 < nv
  · refine (law_big a0 a2 a1 nv cap w h hm).mono ?_
    rintro e w' ⟨rfl, rfl⟩
    exact ⟨rfl, Below.refl _ _⟩
  · have hr := reachBytes_lt
    exact law_any a0 a2 a1 nv cap vs w (by omega) hl hA (fun v hv => ⟨by have := (hS v hv).1; omega, (hS v hv).2⟩) (bounds_u8 w0).1 htab

set_option maxRecDepth 100000 in
theorem lifted (os : Os) (started : os.Started) (H : Type) (enc : TypeId × Value → H) :
    ReturnsInTold none {} Ybaf.checked os 3 .any Input.okWide ((OpenSpec.ofChange Rows.lawS5707AWholeSpec).preRow enc Ybaf.prog Ybaf.f3 Rows.lawS5707AWholeRow.domain false Rows.lawS5707AWholeRow.laid) (fun F => ((OpenSpec.ofChange Rows.lawS5707AWholeSpec).at F).post enc Ybaf.prog Ybaf.f3 false true false false) (aloneAtReturn Ybaf.prog) nothingAlways := by
  refine returnsInTold_of_row (C := Ybaf.checked) (s := OpenSpec.ofChange Rows.lawS5707AWholeSpec) (by kernel_rfl) own started (by kernel_rfl) Ybaf.func3
    (OpenSpec.witness_stopped_at (enc := enc) (C := Ybaf.checked) false (lay3 (World.holding Ybaf.prog os ⟨#[], #[], []⟩)) #[.int .u8 0, .slice none 0 0, .int .i64 0] rfl (by kernel_rfl) (by kernel_rfl) (by kernel_rfl)
      (OpenSpec.preRow_of_B rfl 8 (by kernel_rfl) (by kernel_rfl) (laid_met os _))) ?_
  intro F W base args ds gs before _ hF hval0 hW _ _ hsz hL _
  have hval : ∀ (j : Nat) t v, Ybaf.f3.params[j]? = some t → args[j]? = some v → Value.okWide Ybaf.prog W .any base t v := hval0
  have hW' := hW
  obtain ⟨p, q, hA0, hV, rfl, hfz, hnd⟩ := hW
  have hA : DataW.TrodAll enc Ybaf.prog W 0 (fun _ => true) true Ybaf.f3.params.toList args.toList ds p := hA0
  rw [Ybaf.params3] at hA hval
  obtain ⟨v0, vs0, d0, ds0, p0, q0, hargs, rfl, rfl, h0, r0⟩ := trodAll_cons hA
  obtain ⟨v1, vs1, d1, ds1, p1, q1, rfl, rfl, rfl, h1, r1⟩ := trodAll_cons r0
  obtain ⟨v2, vs2, d2, ds2, p2, q2, rfl, rfl, rfl, h2, r2⟩ := trodAll_cons r1
  obtain ⟨rfl, rfl, rfl⟩ := trodAll_nil r2
  obtain rfl : args = #[v0, v1, v2] := by cases args; simp_all
  obtain ⟨rfl, rfl⟩ := trodVars_none hV
  obtain ⟨a1, len1, cap1, rfl⟩ := okWide_slice Ybaf.underlying22 (hval 1 22 v1 rfl rfl)
  have k1 := h1
  have lt1 : ∀ x ∈ p1, x.block < W.heap.size := by obtain ⟨m, hm⟩ := k1; exact DataW.trod_lt m _ _ _ hm
  have hwt : ∀ n ∈ d1.weights Ybaf.prog 22, n ≤ reachBytes := fun n hn => by
    have := List.all_eq_true.1 hsz n (DataW.weights_mem_each (j := 1) (t := 22) (d := d1) rfl rfl n hn)
    simpa using this
  have w1 : len1 ≤ maxLen ∧ ∃ vs : List VV, vs.length = len1 ∧ (len1 = 0 ∨ ∃ b o, a1 = some ⟨b, o, none⟩ ∧ b < W.heap.size ∧ ValsAt W b o vs) ∧ ∀ v ∈ vs, v.2.size ≤ reachBytes ∧ (Lit.int .i64 v.1.2).wf = true := by
    obtain ⟨fuel, hf⟩ := h1
    exact open_vals (cap := cap1) (by simpa [Value.cells] using hf) hwt
  obtain ⟨a0, rfl, rfl, rfl, w0⟩ := open_int Ybaf.underlying5 (hval 0 5 v0 rfl rfl) h0
  obtain ⟨a2, rfl, rfl, rfl, w2⟩ := open_int Ybaf.underlying3 (hval 2 3 v2 rfl rfl) h2
  clear hA0 hval0
  have hL' : laidMet Ybaf.prog Rows.lawS5707AWholeRow.laid W := hL
  have hL3 : laidMet Ybaf.prog [("internal/strconv.uint64pow10", (Rows.laid_internal_strconv_uint64pow10 : DataW Unit))] W := hL'.tail.tail
  rw [pow10_is] at hL3
  have htab : Tab W := Lib.tabIs_of_head gT gTType Ybaf.underlying72 Ybaf.underlying48 (by kernel_rfl) (by kernel_rfl) hL3
  refine (walk a0 a2 a1 len1 cap1 W w0 w1 htab).mono fun e W' ⟨he, bel⟩ => ?_
  subst he
  exact ⟨_, rfl, _, _, _, [], _, [], hW', trodAll_mk1 (shut_bool Ybaf.underlying4 _),
    (trodAll_cons_mk (shut_int Ybaf.underlying5 w0)
    (trodAll_cons_mk (Below.trod laidOut (by kernel_rfl) (of_decide_eq_true (by kernel_rfl)) k1 bel lt1)
    (trodAll_cons_mk (shut_int Ybaf.underlying3 w2) trodAll_mk0))), rfl, bel.frame _, fun h => by cases h⟩

theorem stops : Ybaf.pinned.checked.prog.stops = ["fmt.Sprintf"] := by kernel_rfl
theorem stopKnobs : Ybaf.pinned.checked.prog.stopKnobs = [] := by kernel_rfl
theorem quiet (os : Os) : Stop.quiet Ybaf.pinned.checked.prog os := by
  intro k hk
  rw [stopKnobs] at hk
  cases hk

set_option maxRecDepth 100000 in
/-- THE CARD. -/
theorem proved : Rows.LawS5707AWholeToldSaid :=
  Claim7.holds_of_told_tied_any_at .later 3 Ybaf.f3 "fmt.Sprintf" [] [] _ _ _ _ _ (by kernel_rfl) rfl rfl rfl laidOut (by kernel_rfl) rfl ⟨rfl, rfl, rfl, rfl, rfl, rfl, rfl⟩ rfl rfl (by kernel_rfl) (by kernel_rfl) Ybaf.func3 (by kernel_rfl)
    (of_decide_eq_true (by kernel_rfl)) (of_decide_eq_true (by kernel_rfl)) stops.symm rfl stopKnobs.symm (by kernel_rfl)
    (by kernel_rfl) (by kernel_rfl) (by kernel_rfl) (by kernel_rfl) (by kernel_rfl) (by kernel_rfl) (by kernel_rfl) (by kernel_rfl) (by kernel_rfl) rfl (by kernel_rfl) rfl rfl
    rfl rfl
    rfl (by kernel_rfl) (by kernel_rfl) (by kernel_rfl) (by decide) (by kernel_rfl) lawS5707AWhole_row_tie
    (OpenClaim.moreEntering_of (by kernel_rfl) (by kernel_rfl) (by kernel_rfl) (by kernel_rfl) (by kernel_rfl) (by kernel_rfl) (by kernel_rfl) (by kernel_rfl) (by kernel_rfl) (by kernel_rfl))
    ⟨_, WideRow.started_initial, quiet _⟩
    (fun os started _ H enc _ => lifted os started H enc)
end Go.Proofs.YbulkdneaFmt.lawS5707AWhole
