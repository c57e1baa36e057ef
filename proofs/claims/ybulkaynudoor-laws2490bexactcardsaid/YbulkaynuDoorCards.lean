/-
  DERIVED. GIVEN WITH THE SEED: THE CARDS: each row of YbulkaynuDoorRows.lean that lists a variable, with what it lists TIED to the program's text (the seventh form; the later family's looks); each row that meets fmt, with fmt's text TOLD by the authors' own Lean function (tested against real Go, not proved from fmt's source: count such statements apart). THE CARD IS WHAT COUNTS. Prove the row's statement (the work); the ties are given (YbulkaynuDoorTie.lean); close each card by the builder's one call (the guide's Derived/Test/ToyasCard.lean, 'card_holds'). Laid BY PROGRAM, IN A SANDBOX (cutbox-door.mjs). By AI agents, Wed Nov 11 2026. No macro, syntax, notation, axiom, sorry.
-/
import Derived.Test.YbulkaynuDoorRows
import GoSem.ClaimSeven
namespace Go.Proofs.YbulkaynuDoor
namespace Rows

/-- THE TIED CARD OF 'decimal.LawS2490BExact'. -/
def lawS2490BExactCard : Claim7 := { stood := { row := lawS2490BExactRow, standIns := [], harness := (true, "68bbdc9dfa1f53e603eb898197b06880545ec80e5ed59fb5da184c6f1277b4d0"), looks := false }, kinds := [], alts := [], laidByText := true, laidKinds := [.data], laidTests := true, laidLooks := .later }
def LawS2490BExactCardSaid : Prop := Claim7.holds Ybad.pinned (.plain (OpenSpec.ofChange lawS2490BExactSpec)) lawS2490BExactCard

/-- THE TIED CARD OF 'decimal.LawS2490BSwap'. -/
def lawS2490BSwapCard : Claim7 := { stood := { row := lawS2490BSwapRow, standIns := [], harness := (true, "68bbdc9dfa1f53e603eb898197b06880545ec80e5ed59fb5da184c6f1277b4d0"), looks := false }, kinds := [], alts := [], laidByText := true, laidKinds := [.data], laidTests := true, laidLooks := .later }
def LawS2490BSwapCardSaid : Prop := Claim7.holds Ybad.pinned (.plain (OpenSpec.ofChange lawS2490BSwapSpec)) lawS2490BSwapCard

/-- THE TIED CARD OF 'decimal.LawS2490BNeg'. -/
def lawS2490BNegCard : Claim7 := { stood := { row := lawS2490BNegRow, standIns := [], harness := (true, "68bbdc9dfa1f53e603eb898197b06880545ec80e5ed59fb5da184c6f1277b4d0"), looks := false }, kinds := [], alts := [], laidByText := true, laidKinds := [.data], laidTests := true, laidLooks := .later }
def LawS2490BNegCardSaid : Prop := Claim7.holds Ybad.pinned (.plain (OpenSpec.ofChange lawS2490BNegSpec)) lawS2490BNegCard
end Rows
end Go.Proofs.YbulkaynuDoor
