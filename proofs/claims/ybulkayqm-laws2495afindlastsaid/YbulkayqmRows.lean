/-
  No cell of these rows narrows 'for every input' (looked for: loops, veiled, ifaces, maps, wideKeys, modest, calm, conditions, laid).
  DERIVED. THE GIVEN ROWS OF THIS SEAT. 3 by the template 'for every input the law returns true; each argument reads behind the call as it read before'; 0 by the template 'total and deterministic' (their statements: YbulkayqmTotals.lean).
  GIVEN WITH THE SEED: the statements are not yours to turn. If you find one false, say at which input.
  Laid BY PROGRAM, IN A SANDBOX (cutbox-rows.mjs): the forced cells as the released guide's own fill.sh prints them over the translation 42c94c2b9b1e2a5e… (all of the seat's roots in one cut). By AI agents, Wed Nov 11 2026. No macro, syntax, notation, axiom, sorry.
-/
import Derived.Test.YbulkayqmChecked
import GoSem.Claim
import GoSem.ClaimJoined
import GoSem.ClaimMapViews
import Derived.JoinedTies
import Derived.KernelRfl
namespace Go.Proofs.Ybulkayqm
/- THE CELL 'sum', in the pinned program and in every row, IS THE sha256 OF THE DUMP (.gsa) THAT YbulkayqmProg.lean LOADS. Nothing in Lean hashes anything: it is a label: what it is worth is what the hold of that sum in a sandbox is worth. -/
noncomputable def Yba.pinned : Pinned := { name := "ybulkayqm", sum := "42c94c2b9b1e2a5ea917c2e480b1539a7a49f8df9735a5a064683aea3538f968", checked := Yba.checked }
namespace Rows
def none {H : Type} : Left H := { results := [], args := [] }

/-- 'ledger.LawS2495AFindLast': WHATEVER THE INPUT: true; the input reads as it did. -/
def lawS2495AFindLastSpec : ChangeSpec := { name := "lawS2495AFindLast", fn := fun _ => fun
  | [d1, d2, d3, d4, d5] => { results := [.lit (.bool true)], args := [d1, d2, d3, d4, d5] }
  | _ => none }
def lawS2495AFindLastRow : OpenClaim := { program := "ybulkayqm", sum := "42c94c2b9b1e2a5ea917c2e480b1539a7a49f8df9735a5a064683aea3538f968", func := "example.com/vestledger/vestledger/ledger.LawS2495AFindLast", spec := "lawS2495AFindLast", apart := false }
def LawS2495AFindLastSaid : Prop := lawS2495AFindLastRow.holds Yba.pinned (OpenSpec.ofChange lawS2495AFindLastSpec)

/-- ITS FALSE NEIGHBOUR: 'it returns false'. Refute it at one input. -/
def lawS2495AFindLastWrong : ChangeSpec := { name := "lawS2495AFindLast", fn := fun _ => fun
  | [d1, d2, d3, d4, d5] => { results := [.lit (.bool false)], args := [d1, d2, d3, d4, d5] }
  | _ => none }
def LawS2495AFindLastWrongFalsely : Prop := lawS2495AFindLastRow.holds Yba.pinned (OpenSpec.ofChange lawS2495AFindLastWrong)

/-- 'ledger.LawS2495CExact': WHATEVER THE INPUT: true; the input reads as it did. -/
def lawS2495CExactSpec : ChangeSpec := { name := "lawS2495CExact", fn := fun _ => fun
  | [d1, d2, d3, d4] => { results := [.lit (.bool true)], args := [d1, d2, d3, d4] }
  | _ => none }
def lawS2495CExactRow : OpenClaim := { program := "ybulkayqm", sum := "42c94c2b9b1e2a5ea917c2e480b1539a7a49f8df9735a5a064683aea3538f968", func := "example.com/vestledger/vestledger/ledger.LawS2495CExact", spec := "lawS2495CExact", apart := false }
def LawS2495CExactSaid : Prop := lawS2495CExactRow.holds Yba.pinned (OpenSpec.ofChange lawS2495CExactSpec)

/-- ITS FALSE NEIGHBOUR: 'it returns false'. Refute it at one input. -/
def lawS2495CExactWrong : ChangeSpec := { name := "lawS2495CExact", fn := fun _ => fun
  | [d1, d2, d3, d4] => { results := [.lit (.bool false)], args := [d1, d2, d3, d4] }
  | _ => none }
def LawS2495CExactWrongFalsely : Prop := lawS2495CExactRow.holds Yba.pinned (OpenSpec.ofChange lawS2495CExactWrong)

/-- 'ledger.LawS2495CNested': WHATEVER THE INPUT: true; the input reads as it did. -/
def lawS2495CNestedSpec : ChangeSpec := { name := "lawS2495CNested", fn := fun _ => fun
  | [d1, d2, d3, d4, d5, d6] => { results := [.lit (.bool true)], args := [d1, d2, d3, d4, d5, d6] }
  | _ => none }
def lawS2495CNestedRow : OpenClaim := { program := "ybulkayqm", sum := "42c94c2b9b1e2a5ea917c2e480b1539a7a49f8df9735a5a064683aea3538f968", func := "example.com/vestledger/vestledger/ledger.LawS2495CNested", spec := "lawS2495CNested", recurses := true, apart := false }
def LawS2495CNestedSaid : Prop := lawS2495CNestedRow.holds Yba.pinned (OpenSpec.ofChange lawS2495CNestedSpec)

/-- ITS FALSE NEIGHBOUR: 'it returns false'. Refute it at one input. -/
def lawS2495CNestedWrong : ChangeSpec := { name := "lawS2495CNested", fn := fun _ => fun
  | [d1, d2, d3, d4, d5, d6] => { results := [.lit (.bool false)], args := [d1, d2, d3, d4, d5, d6] }
  | _ => none }
def LawS2495CNestedWrongFalsely : Prop := lawS2495CNestedRow.holds Yba.pinned (OpenSpec.ofChange lawS2495CNestedWrong)

end Rows
end Go.Proofs.Ybulkayqm
