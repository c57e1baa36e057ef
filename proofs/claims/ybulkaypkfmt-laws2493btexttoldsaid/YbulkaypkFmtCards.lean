/-
  DERIVED. GIVEN WITH THE SEED: THE CARDS: each row of YbulkaypkFmtRows.lean that lists a variable, with what it lists TIED to the program's text (the seventh form; the later family's looks); each row that meets fmt, with fmt's text TOLD by the authors' own Lean function (tested against real Go, not proved from fmt's source: count such statements apart). THE CARD IS WHAT COUNTS. Prove the row's statement (the work); the ties are given (YbulkaypkFmtTie.lean); close each card by the builder's one call (the guide's Derived/Test/ToyasCard.lean, 'card_holds'). Laid BY PROGRAM, IN A SANDBOX (cutbox-door.mjs). By AI agents, Wed Nov 11 2026. No macro, syntax, notation, axiom, sorry.
-/
import Derived.Test.YbulkaypkFmtRows
import GoSem.ClaimSeven
namespace Go.Proofs.YbulkaypkFmt
namespace Rows

/-- THE TOLD AND TIED CARD OF 'driftline.LawS2493BText'. -/
def lawS2493BTextCard : Claim7 := { stood := { row := lawS2493BTextRow, standIns := [], harness := (true, "1a1994fd7cfe78219a134ceb3831b9ddcb7926ff55c569b862905484d253a353"), looks := true }, told := true, laidByText := true, laidKinds := [.sentinel], laidTests := true, laidLooks := .later, goes := false }
def LawS2493BTextToldSaid : Prop := Claim7.holds Ybaf.pinned (.plain (OpenSpec.ofChange lawS2493BTextSpec)) lawS2493BTextCard
/-- ITS FALSE NEIGHBOUR. Refute it at one input. -/
def LawS2493BTextToldWrongFalsely : Prop := Claim7.holds Ybaf.pinned (.plain (OpenSpec.ofChange lawS2493BTextWrong)) lawS2493BTextCard

/-- THE TOLD AND TIED CARD OF 'driftline.LawS2493BCeil'. -/
def lawS2493BCeilCard : Claim7 := { stood := { row := lawS2493BCeilRow, standIns := [], harness := (true, "1a1994fd7cfe78219a134ceb3831b9ddcb7926ff55c569b862905484d253a353"), looks := true }, told := true, laidByText := true, laidKinds := [.sentinel], laidTests := true, laidLooks := .later, goes := false }
def LawS2493BCeilToldSaid : Prop := Claim7.holds Ybaf.pinned (.plain (OpenSpec.ofChange lawS2493BCeilSpec)) lawS2493BCeilCard
/-- ITS FALSE NEIGHBOUR. Refute it at one input. -/
def LawS2493BCeilToldWrongFalsely : Prop := Claim7.holds Ybaf.pinned (.plain (OpenSpec.ofChange lawS2493BCeilWrong)) lawS2493BCeilCard

/-- THE TOLD AND TIED CARD OF 'driftline.LawS2493CKind'. -/
def lawS2493CKindCard : Claim7 := { stood := { row := lawS2493CKindRow, standIns := [], harness := (true, "1a1994fd7cfe78219a134ceb3831b9ddcb7926ff55c569b862905484d253a353"), looks := true }, told := true, laidByText := true, laidKinds := [.sentinel, .sentinel], laidTests := true, laidLooks := .later, goes := false }
def LawS2493CKindToldSaid : Prop := Claim7.holds Ybaf.pinned (.plain (OpenSpec.ofChange lawS2493CKindSpec)) lawS2493CKindCard
/-- ITS FALSE NEIGHBOUR. Refute it at one input. -/
def LawS2493CKindToldWrongFalsely : Prop := Claim7.holds Ybaf.pinned (.plain (OpenSpec.ofChange lawS2493CKindWrong)) lawS2493CKindCard
end Rows
end Go.Proofs.YbulkaypkFmt
