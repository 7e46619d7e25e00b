/-
  No cell of these rows narrows 'for every input' (looked for: loops, veiled, ifaces, maps, wideKeys, modest, calm, conditions, laid).
  DERIVED. THE GIVEN ROWS OF THIS SEAT. 4 by the template 'for every input the law returns true; each argument reads behind the call as it read before'; 0 by the template 'total and deterministic' (their statements: YbulkdndmTotals.lean).
  GIVEN WITH THE SEED: the statements are not yours to turn. If you find one false, say at which input.
  Laid BY PROGRAM, IN A SANDBOX (cutbox-rows.mjs): the forced cells as the released guide's own fill.sh prints them over the translation eaca64ded1b82899… (all of the seat's roots in one cut). By AI agents, Wed Nov 11 2026. No macro, syntax, notation, axiom, sorry.
-/
import Derived.Test.YbulkdndmChecked
import GoSem.Claim
import GoSem.ClaimJoined
import GoSem.ClaimMapViews
import Derived.JoinedTies
import Derived.KernelRfl
namespace Go.Proofs.Ybulkdndm
/- THE CELL 'sum', in the pinned program and in every row, IS THE sha256 OF THE DUMP (.gsa) THAT YbulkdndmProg.lean LOADS. Nothing in Lean hashes anything: it is a label: what it is worth is what the hold of that sum in a sandbox is worth. -/
noncomputable def Yba.pinned : Pinned := { name := "ybulkdndm", sum := "eaca64ded1b82899397f09bea0b5eaf2b29d378bbf61daca6db5710e6dee5129", checked := Yba.checked }
namespace Rows
def none {H : Type} : Left H := { results := [], args := [] }

/-- 'skewline.LawS5706BWhole': WHATEVER THE INPUT: true; the input reads as it did. -/
def lawS5706BWholeSpec : ChangeSpec := { name := "lawS5706BWhole", fn := fun _ => fun
  | [d1, d2, d3, d4] => { results := [.lit (.bool true)], args := [d1, d2, d3, d4] }
  | _ => none }
def lawS5706BWholeRow : OpenClaim := { program := "ybulkdndm", sum := "eaca64ded1b82899397f09bea0b5eaf2b29d378bbf61daca6db5710e6dee5129", func := "example.com/skewline/skewline.LawS5706BWhole", spec := "lawS5706BWhole", inPlace := ["(*internal/sync.Mutex).Lock", "internal/race.Disable", "sync/atomic.CompareAndSwapInt32", "internal/race.Enable", "internal/race.Acquire", "(*internal/sync.Mutex).lockSlow", "internal/sync.runtime_canSpin", "internal/sync.runtime_doSpin", "internal/sync.throw", "internal/sync.runtime_nanotime", "internal/sync.runtime_SemacquireMutex", "sync/atomic.AddInt32", "(*internal/sync.Mutex).Unlock", "internal/race.ReleaseMerge", "(*internal/sync.Mutex).unlockSlow", "internal/sync.fatal", "internal/sync.runtime_Semrelease"], apart := false }
def LawS5706BWholeSaid : Prop := lawS5706BWholeRow.holds Yba.pinned (OpenSpec.ofChange lawS5706BWholeSpec)

/-- ITS FALSE NEIGHBOUR: 'it returns false'. Refute it at one input. -/
def lawS5706BWholeWrong : ChangeSpec := { name := "lawS5706BWhole", fn := fun _ => fun
  | [d1, d2, d3, d4] => { results := [.lit (.bool false)], args := [d1, d2, d3, d4] }
  | _ => none }
def LawS5706BWholeWrongFalsely : Prop := lawS5706BWholeRow.holds Yba.pinned (OpenSpec.ofChange lawS5706BWholeWrong)

/-- 'skewline.LawS5706BLiteral': WHATEVER THE INPUT: true; the input reads as it did. -/
def lawS5706BLiteralSpec : ChangeSpec := { name := "lawS5706BLiteral", fn := fun _ => fun
  | [d1, d2, d3, d4, d5] => { results := [.lit (.bool true)], args := [d1, d2, d3, d4, d5] }
  | _ => none }
def lawS5706BLiteralRow : OpenClaim := { program := "ybulkdndm", sum := "eaca64ded1b82899397f09bea0b5eaf2b29d378bbf61daca6db5710e6dee5129", func := "example.com/skewline/skewline.LawS5706BLiteral", spec := "lawS5706BLiteral", apart := false }
def LawS5706BLiteralSaid : Prop := lawS5706BLiteralRow.holds Yba.pinned (OpenSpec.ofChange lawS5706BLiteralSpec)

/-- ITS FALSE NEIGHBOUR: 'it returns false'. Refute it at one input. -/
def lawS5706BLiteralWrong : ChangeSpec := { name := "lawS5706BLiteral", fn := fun _ => fun
  | [d1, d2, d3, d4, d5] => { results := [.lit (.bool false)], args := [d1, d2, d3, d4, d5] }
  | _ => none }
def LawS5706BLiteralWrongFalsely : Prop := lawS5706BLiteralRow.holds Yba.pinned (OpenSpec.ofChange lawS5706BLiteralWrong)

/-- 'skewline.LawS5706CWhole': WHATEVER THE INPUT: true; the input reads as it did. -/
def lawS5706CWholeSpec : ChangeSpec := { name := "lawS5706CWhole", fn := fun _ => fun
  | [d1, d2, d3] => { results := [.lit (.bool true)], args := [d1, d2, d3] }
  | _ => none }
def lawS5706CWholeRow : OpenClaim := { program := "ybulkdndm", sum := "eaca64ded1b82899397f09bea0b5eaf2b29d378bbf61daca6db5710e6dee5129", func := "example.com/skewline/skewline.LawS5706CWhole", spec := "lawS5706CWhole", inPlace := ["sync/atomic.StorePointer", "sync/atomic.LoadPointer"], unfollowed := true, recurses := true, apart := false }
def LawS5706CWholeSaid : Prop := lawS5706CWholeRow.holds Yba.pinned (OpenSpec.ofChange lawS5706CWholeSpec)

/-- ITS FALSE NEIGHBOUR: 'it returns false'. Refute it at one input. -/
def lawS5706CWholeWrong : ChangeSpec := { name := "lawS5706CWhole", fn := fun _ => fun
  | [d1, d2, d3] => { results := [.lit (.bool false)], args := [d1, d2, d3] }
  | _ => none }
def LawS5706CWholeWrongFalsely : Prop := lawS5706CWholeRow.holds Yba.pinned (OpenSpec.ofChange lawS5706CWholeWrong)

/-- 'skewline.LawS5706CScript': WHATEVER THE INPUT: true; the input reads as it did. -/
def lawS5706CScriptSpec : ChangeSpec := { name := "lawS5706CScript", fn := fun _ => fun
  | [d] => { results := [.lit (.bool true)], args := [d] }
  | _ => none }
def lawS5706CScriptRow : OpenClaim := { program := "ybulkdndm", sum := "eaca64ded1b82899397f09bea0b5eaf2b29d378bbf61daca6db5710e6dee5129", func := "example.com/skewline/skewline.LawS5706CScript", spec := "lawS5706CScript", inPlace := ["sync/atomic.LoadPointer", "sync/atomic.StorePointer"], unfollowed := true, recurses := true, apart := false }
def LawS5706CScriptSaid : Prop := lawS5706CScriptRow.holds Yba.pinned (OpenSpec.ofChange lawS5706CScriptSpec)

/-- ITS FALSE NEIGHBOUR: 'it returns false'. Refute it at one input. -/
def lawS5706CScriptWrong : ChangeSpec := { name := "lawS5706CScript", fn := fun _ => fun
  | [d] => { results := [.lit (.bool false)], args := [d] }
  | _ => none }
def LawS5706CScriptWrongFalsely : Prop := lawS5706CScriptRow.holds Yba.pinned (OpenSpec.ofChange lawS5706CScriptWrong)

end Rows
end Go.Proofs.Ybulkdndm
