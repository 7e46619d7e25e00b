/-
  No cell of these rows narrows 'for every input' (looked for: loops, veiled, ifaces, maps, wideKeys, modest, calm, conditions, laid).
  DERIVED. THE GIVEN ROWS OF THIS SEAT. 2 by the template 'for every input the law returns true; each argument reads behind the call as it read before'; 0 by the template 'total and deterministic' (their statements: YbulkdncyTotals.lean).
  GIVEN WITH THE SEED: the statements are not yours to turn. If you find one false, say at which input.
  Laid BY PROGRAM, IN A SANDBOX (cutbox-rows.mjs): the forced cells as the released guide's own fill.sh prints them over the translation a6a5cfcf8526607a… (all of the seat's roots in one cut). By AI agents, Wed Nov 11 2026. No macro, syntax, notation, axiom, sorry.
-/
import Derived.Test.YbulkdncyChecked
import GoSem.Claim
import GoSem.ClaimJoined
import GoSem.ClaimMapViews
import Derived.JoinedTies
import Derived.KernelRfl
namespace Go.Proofs.Ybulkdncy
/- THE CELL 'sum', in the pinned program and in every row, IS THE sha256 OF THE DUMP (.gsa) THAT YbulkdncyProg.lean LOADS. Nothing in Lean hashes anything: it is a label: what it is worth is what the hold of that sum in a sandbox is worth. -/
noncomputable def Yba.pinned : Pinned := { name := "ybulkdncy", sum := "a6a5cfcf8526607aecaf8af9ddf108b23f4a3cae3951eae71a7f20d680b1e8b8", checked := Yba.checked }
namespace Rows
def none {H : Type} : Left H := { results := [], args := [] }

/-- 'bekle.LawS5705AWhole': WHATEVER THE INPUT: true; the input reads as it did. -/
def lawS5705AWholeSpec : ChangeSpec := { name := "lawS5705AWhole", fn := fun _ => fun
  | [d1, d2, d3, d4, d5, d6, d7, d8, d9, d10] => { results := [.lit (.bool true)], args := [d1, d2, d3, d4, d5, d6, d7, d8, d9, d10] }
  | _ => none }
def lawS5705AWholeRow : OpenClaim := { program := "ybulkdncy", sum := "a6a5cfcf8526607aecaf8af9ddf108b23f4a3cae3951eae71a7f20d680b1e8b8", func := "example.com/bekle/bekle.LawS5705AWhole", spec := "lawS5705AWhole", inPlace := ["sync/atomic.StoreUint64", "sync/atomic.StoreInt64", "sync/atomic.LoadUint64", "sync/atomic.LoadInt64"], unfollowed := true, recurses := true, apart := false }
def LawS5705AWholeSaid : Prop := lawS5705AWholeRow.holds Yba.pinned (OpenSpec.ofChange lawS5705AWholeSpec)

/-- ITS FALSE NEIGHBOUR: 'it returns false'. Refute it at one input. -/
def lawS5705AWholeWrong : ChangeSpec := { name := "lawS5705AWhole", fn := fun _ => fun
  | [d1, d2, d3, d4, d5, d6, d7, d8, d9, d10] => { results := [.lit (.bool false)], args := [d1, d2, d3, d4, d5, d6, d7, d8, d9, d10] }
  | _ => none }
def LawS5705AWholeWrongFalsely : Prop := lawS5705AWholeRow.holds Yba.pinned (OpenSpec.ofChange lawS5705AWholeWrong)

/-- 'bekle.LawS5705BPart': WHATEVER THE INPUT: true; the input reads as it did. -/
def lawS5705BPartSpec : ChangeSpec := { name := "lawS5705BPart", fn := fun _ => fun
  | [d1, d2, d3, d4, d5, d6, d7, d8, d9, d10] => { results := [.lit (.bool true)], args := [d1, d2, d3, d4, d5, d6, d7, d8, d9, d10] }
  | _ => none }
def lawS5705BPartRow : OpenClaim := { program := "ybulkdncy", sum := "a6a5cfcf8526607aecaf8af9ddf108b23f4a3cae3951eae71a7f20d680b1e8b8", func := "example.com/bekle/bekle.LawS5705BPart", spec := "lawS5705BPart", inPlace := ["sync/atomic.StoreUint64", "sync/atomic.StoreInt64", "sync/atomic.LoadUint64", "sync/atomic.LoadInt64"], unfollowed := true, recurses := true, apart := false }
def LawS5705BPartSaid : Prop := lawS5705BPartRow.holds Yba.pinned (OpenSpec.ofChange lawS5705BPartSpec)

/-- ITS FALSE NEIGHBOUR: 'it returns false'. Refute it at one input. -/
def lawS5705BPartWrong : ChangeSpec := { name := "lawS5705BPart", fn := fun _ => fun
  | [d1, d2, d3, d4, d5, d6, d7, d8, d9, d10] => { results := [.lit (.bool false)], args := [d1, d2, d3, d4, d5, d6, d7, d8, d9, d10] }
  | _ => none }
def LawS5705BPartWrongFalsely : Prop := lawS5705BPartRow.holds Yba.pinned (OpenSpec.ofChange lawS5705BPartWrong)

end Rows
end Go.Proofs.Ybulkdncy
