/-
  No cell of these rows narrows 'for every input' (looked for: loops, veiled, ifaces, maps, wideKeys, modest, calm, conditions, laid).
  DERIVED. THE GIVEN ROWS OF THIS SEAT. 2 by the template 'for every input the law returns true; each argument reads behind the call as it read before'; 0 by the template 'total and deterministic' (their statements: YbulkaypyTotals.lean).
  GIVEN WITH THE SEED: the statements are not yours to turn. If you find one false, say at which input.
  Laid BY PROGRAM, IN A SANDBOX (cutbox-rows.mjs): the forced cells as the released guide's own fill.sh prints them over the translation 839e118b17e4f2bc… (all of the seat's roots in one cut). By AI agents, Wed Nov 11 2026. No macro, syntax, notation, axiom, sorry.
-/
import Derived.Test.YbulkaypyChecked
import GoSem.Claim
import GoSem.ClaimJoined
import GoSem.ClaimMapViews
import Derived.JoinedTies
import Derived.KernelRfl
namespace Go.Proofs.Ybulkaypy
/- THE CELL 'sum', in the pinned program and in every row, IS THE sha256 OF THE DUMP (.gsa) THAT YbulkaypyProg.lean LOADS. Nothing in Lean hashes anything: it is a label: what it is worth is what the hold of that sum in a sandbox is worth. -/
noncomputable def Yba.pinned : Pinned := { name := "ybulkaypy", sum := "839e118b17e4f2bcb125bde46650aea297e02a89173da7126dc2f016448da49d", checked := Yba.checked }
namespace Rows
def none {H : Type} : Left H := { results := [], args := [] }

/-- 'kv.LawS2494BLayout': WHATEVER THE INPUT: true; the input reads as it did. -/
def lawS2494BLayoutSpec : ChangeSpec := { name := "lawS2494BLayout", fn := fun _ => fun
  | [d1, d2, d3] => { results := [.lit (.bool true)], args := [d1, d2, d3] }
  | _ => none }
def lawS2494BLayoutRow : OpenClaim := { program := "ybulkaypy", sum := "839e118b17e4f2bcb125bde46650aea297e02a89173da7126dc2f016448da49d", func := "example.com/oarlock/oarlock/internal/kv.LawS2494BLayout", spec := "lawS2494BLayout", apart := false }
def LawS2494BLayoutSaid : Prop := lawS2494BLayoutRow.holds Yba.pinned (OpenSpec.ofChange lawS2494BLayoutSpec)

/-- ITS FALSE NEIGHBOUR: 'it returns false'. Refute it at one input. -/
def lawS2494BLayoutWrong : ChangeSpec := { name := "lawS2494BLayout", fn := fun _ => fun
  | [d1, d2, d3] => { results := [.lit (.bool false)], args := [d1, d2, d3] }
  | _ => none }
def LawS2494BLayoutWrongFalsely : Prop := lawS2494BLayoutRow.holds Yba.pinned (OpenSpec.ofChange lawS2494BLayoutWrong)

/-- 'kv.LawS2494BPutAppend': WHATEVER THE INPUT: true; the input reads as it did. -/
def lawS2494BPutAppendSpec : ChangeSpec := { name := "lawS2494BPutAppend", fn := fun _ => fun
  | [d1, d2] => { results := [.lit (.bool true)], args := [d1, d2] }
  | _ => none }
def lawS2494BPutAppendRow : OpenClaim := { program := "ybulkaypy", sum := "839e118b17e4f2bcb125bde46650aea297e02a89173da7126dc2f016448da49d", func := "example.com/oarlock/oarlock/internal/kv.LawS2494BPutAppend", spec := "lawS2494BPutAppend", apart := false }
def LawS2494BPutAppendSaid : Prop := lawS2494BPutAppendRow.holds Yba.pinned (OpenSpec.ofChange lawS2494BPutAppendSpec)

/-- ITS FALSE NEIGHBOUR: 'it returns false'. Refute it at one input. -/
def lawS2494BPutAppendWrong : ChangeSpec := { name := "lawS2494BPutAppend", fn := fun _ => fun
  | [d1, d2] => { results := [.lit (.bool false)], args := [d1, d2] }
  | _ => none }
def LawS2494BPutAppendWrongFalsely : Prop := lawS2494BPutAppendRow.holds Yba.pinned (OpenSpec.ofChange lawS2494BPutAppendWrong)

end Rows
end Go.Proofs.Ybulkaypy
