/-
  No cell of these rows narrows 'for every input' (looked for: loops, veiled, ifaces, maps, wideKeys, modest, calm, conditions, laid).
  DERIVED. THE GIVEN ROWS OF THIS SEAT. 2 by the template 'for every input the law returns true; each argument reads behind the call as it read before'; 0 by the template 'total and deterministic' (their statements: YbulkdnbwTotals.lean).
  GIVEN WITH THE SEED: the statements are not yours to turn. If you find one false, say at which input.
  Laid BY PROGRAM, IN A SANDBOX (cutbox-rows.mjs): the forced cells as the released guide's own fill.sh prints them over the translation 40f0ca7cd759add9… (all of the seat's roots in one cut). By AI agents, Wed Nov 11 2026. No macro, syntax, notation, axiom, sorry.
-/
import Derived.Test.YbulkdnbwChecked
import GoSem.Claim
import GoSem.ClaimJoined
import GoSem.ClaimMapViews
import Derived.JoinedTies
import Derived.KernelRfl
namespace Go.Proofs.Ybulkdnbw
/- THE CELL 'sum', in the pinned program and in every row, IS THE sha256 OF THE DUMP (.gsa) THAT YbulkdnbwProg.lean LOADS. Nothing in Lean hashes anything: it is a label: what it is worth is what the hold of that sum in a sandbox is worth. -/
noncomputable def Yba.pinned : Pinned := { name := "ybulkdnbw", sum := "40f0ca7cd759add9d616c8f7a8f7692680f105230f71ffa341b8ed63b6441685", checked := Yba.checked }
namespace Rows
def none {H : Type} : Left H := { results := [], args := [] }

/-- 'register.LawS5703BWhole': WHATEVER THE INPUT: true; the input reads as it did. -/
def lawS5703BWholeSpec : ChangeSpec := { name := "lawS5703BWhole", fn := fun _ => fun
  | [d] => { results := [.lit (.bool true)], args := [d] }
  | _ => none }
def lawS5703BWholeRow : OpenClaim := { program := "ybulkdnbw", sum := "40f0ca7cd759add9d616c8f7a8f7692680f105230f71ffa341b8ed63b6441685", func := "example.com/zhaomu/zhaomu/internal/register.LawS5703BWhole", spec := "lawS5703BWhole", inPlace := ["internal/bytealg.abigen_runtime_cmpstring"], unfollowed := true, recurses := true, apart := false }
def LawS5703BWholeSaid : Prop := lawS5703BWholeRow.holds Yba.pinned (OpenSpec.ofChange lawS5703BWholeSpec)

/-- ITS FALSE NEIGHBOUR: 'it returns false'. Refute it at one input. -/
def lawS5703BWholeWrong : ChangeSpec := { name := "lawS5703BWhole", fn := fun _ => fun
  | [d] => { results := [.lit (.bool false)], args := [d] }
  | _ => none }
def LawS5703BWholeWrongFalsely : Prop := lawS5703BWholeRow.holds Yba.pinned (OpenSpec.ofChange lawS5703BWholeWrong)

/-- 'register.LawS5703BLiteral': WHATEVER THE INPUT: true; the input reads as it did. -/
def lawS5703BLiteralSpec : ChangeSpec := { name := "lawS5703BLiteral", fn := fun _ => fun
  | [d] => { results := [.lit (.bool true)], args := [d] }
  | _ => none }
def lawS5703BLiteralRow : OpenClaim := { program := "ybulkdnbw", sum := "40f0ca7cd759add9d616c8f7a8f7692680f105230f71ffa341b8ed63b6441685", func := "example.com/zhaomu/zhaomu/internal/register.LawS5703BLiteral", spec := "lawS5703BLiteral", inPlace := ["internal/bytealg.abigen_runtime_cmpstring"], unfollowed := true, recurses := true, apart := false }
def LawS5703BLiteralSaid : Prop := lawS5703BLiteralRow.holds Yba.pinned (OpenSpec.ofChange lawS5703BLiteralSpec)

/-- ITS FALSE NEIGHBOUR: 'it returns false'. Refute it at one input. -/
def lawS5703BLiteralWrong : ChangeSpec := { name := "lawS5703BLiteral", fn := fun _ => fun
  | [d] => { results := [.lit (.bool false)], args := [d] }
  | _ => none }
def LawS5703BLiteralWrongFalsely : Prop := lawS5703BLiteralRow.holds Yba.pinned (OpenSpec.ofChange lawS5703BLiteralWrong)

end Rows
end Go.Proofs.Ybulkdnbw
