/-
  No cell of these rows narrows 'for every input' (looked for: loops, veiled, ifaces, maps, wideKeys, modest, calm, conditions, laid).
  DERIVED. THE GIVEN ROWS OF THIS SEAT. 1 by the template 'for every input the law returns true; each argument reads behind the call as it read before'; 0 by the template 'total and deterministic' (their statements: YbulkdneaTotals.lean).
  GIVEN WITH THE SEED: the statements are not yours to turn. If you find one false, say at which input.
  Laid BY PROGRAM, IN A SANDBOX (cutbox-rows.mjs): the forced cells as the released guide's own fill.sh prints them over the translation 7c4b79e7db747b0c… (all of the seat's roots in one cut). By AI agents, Wed Nov 11 2026. No macro, syntax, notation, axiom, sorry.
-/
import Derived.Test.YbulkdneaChecked
import GoSem.Claim
import GoSem.ClaimJoined
import GoSem.ClaimMapViews
import Derived.JoinedTies
import Derived.KernelRfl
namespace Go.Proofs.Ybulkdnea
/- THE CELL 'sum', in the pinned program and in every row, IS THE sha256 OF THE DUMP (.gsa) THAT YbulkdneaProg.lean LOADS. Nothing in Lean hashes anything: it is a label: what it is worth is what the hold of that sum in a sandbox is worth. -/
noncomputable def Yba.pinned : Pinned := { name := "ybulkdnea", sum := "7c4b79e7db747b0c2b13323e4be58d515d6c50fb704d45ed719a109330146b05", checked := Yba.checked }
namespace Rows
def none {H : Type} : Left H := { results := [], args := [] }

/-- 'lamina.LawS5707CWhole': WHATEVER THE INPUT: true; the input reads as it did. -/
def lawS5707CWholeSpec : ChangeSpec := { name := "lawS5707CWhole", fn := fun _ => fun
  | [d1, d2, d3, d4] => { results := [.lit (.bool true)], args := [d1, d2, d3, d4] }
  | _ => none }
def lawS5707CWholeRow : OpenClaim := { program := "ybulkdnea", sum := "7c4b79e7db747b0c2b13323e4be58d515d6c50fb704d45ed719a109330146b05", func := "example.com/lamina/lamina.LawS5707CWhole", spec := "lawS5707CWhole", apart := false }
def LawS5707CWholeSaid : Prop := lawS5707CWholeRow.holds Yba.pinned (OpenSpec.ofChange lawS5707CWholeSpec)

/-- ITS FALSE NEIGHBOUR: 'it returns false'. Refute it at one input. -/
def lawS5707CWholeWrong : ChangeSpec := { name := "lawS5707CWhole", fn := fun _ => fun
  | [d1, d2, d3, d4] => { results := [.lit (.bool false)], args := [d1, d2, d3, d4] }
  | _ => none }
def LawS5707CWholeWrongFalsely : Prop := lawS5707CWholeRow.holds Yba.pinned (OpenSpec.ofChange lawS5707CWholeWrong)

end Rows
end Go.Proofs.Ybulkdnea
