/-
  NARROWER THAN 'FOR EVERY INPUT', by the rows' own cells (each row's printed sentence says how): LawS2493BText: ifaces, laid · LawS2493BCeil: ifaces, laid · LawS2493CKind: ifaces, laid.
  DERIVED. THE GIVEN ROWS OF THIS SEAT. 3 by the template 'for every input the law returns true; each argument reads behind the call as it read before'; 0 by the template 'total and deterministic' (their statements: YbulkaypkFmtTotals.lean).
  GIVEN WITH THE SEED: the statements are not yours to turn. If you find one false, say at which input.
  Laid BY PROGRAM, IN A SANDBOX (cutbox-rows.mjs): the forced cells as the released guide's own fill.sh prints them over the translation ccac5700ca3a2650… (all of the seat's roots in one cut). By AI agents, Wed Nov 11 2026. No macro, syntax, notation, axiom, sorry.
-/
import Derived.Test.YbulkaypkFmtChecked
import GoSem.Claim
import GoSem.ClaimJoined
import GoSem.ClaimMapViews
import Derived.JoinedTies
import Derived.KernelRfl
namespace Go.Proofs.YbulkaypkFmt
/- THE CELL 'sum', in the pinned program and in every row, IS THE sha256 OF THE DUMP (.gsa) THAT YbulkaypkFmtProg.lean LOADS. Nothing in Lean hashes anything: it is a label: what it is worth is what the hold of that sum in a sandbox is worth. -/
noncomputable def Ybaf.pinned : Pinned := { name := "ybulkaypkfmt", sum := "ccac5700ca3a26508f9a5ffe73d39a7c3d5e1c6020c1db7da390a7bc33bc01d3", checked := Ybaf.checked }
namespace Rows
def none {H : Type} : Left H := { results := [], args := [] }

/- WHAT THE LISTED PACKAGE-LEVEL VARIABLES READ AS WHEN THE CALL BEGINS. Each datum BY PROGRAM (the guide's laid-datum.mjs) off the statement by which the dump's own 'gosem.cut.vars' lays the variable. In a bare row this is a premise. The card (YbulkaypkFmtCards.lean) ties it to the program's text. -/
def laid_example_com_driftline_driftline_ErrInvalidTimestamp {H : Type} : DataW H := .iface "*errors.errorString" (.ptr (.agg [.lit (.string [100, 114, 105, 102, 116, 108, 105, 110, 101, 58, 32, 105, 110, 118, 97, 108, 105, 100, 32, 116, 105, 109, 101, 115, 116, 97, 109, 112])]))
def laid_example_com_driftline_driftline_ErrClockExhausted {H : Type} : DataW H := .iface "*errors.errorString" (.ptr (.agg [.lit (.string [100, 114, 105, 102, 116, 108, 105, 110, 101, 58, 32, 110, 111, 32, 115, 116, 97, 109, 112, 32, 108, 101, 102, 116, 32, 97, 98, 111, 118, 101, 32, 116, 104, 101, 32, 99, 108, 111, 99, 107, 39, 115, 32, 108, 97, 115, 116, 32, 111, 110, 101])]))
def laid_example_com_driftline_driftline_ErrClosed {H : Type} : DataW H := .iface "*errors.errorString" (.ptr (.agg [.lit (.string [100, 114, 105, 102, 116, 108, 105, 110, 101, 58, 32, 99, 108, 111, 99, 107, 32, 99, 108, 111, 115, 101, 100])]))

/-- 'driftline.LawS2493BText': WHATEVER THE INPUT: true; the input reads as it did. -/
def lawS2493BTextSpec : ChangeSpec := { name := "lawS2493BText", vars := ["example.com/driftline/driftline.ErrInvalidTimestamp"], fn := fun _ => fun
  | [d1, d2, d3, g1] => { results := [.lit (.bool true)], args := [d1, d2, d3], vars := [g1] }
  | _ => none }
def lawS2493BTextRow : OpenClaim := { program := "ybulkaypkfmt", sum := "ccac5700ca3a26508f9a5ffe73d39a7c3d5e1c6020c1db7da390a7bc33bc01d3", func := "example.com/driftline/driftline.LawS2493BText", spec := "lawS2493BText", stops := ["fmt.errorf, its operands' methods called"], inPlace := ["fmt.errorf", "internal/reflectlite.TypeOf"], unfollowed := true, recurses := true, named := ["example.com/driftline/driftline.ErrInvalidTimestamp"], ifaces := true, apart := false, laid := [("example.com/driftline/driftline.ErrInvalidTimestamp", laid_example_com_driftline_driftline_ErrInvalidTimestamp)] }
/-- NO THEOREM (fmt's text is open here; it may be false): for the released tool's asking of the row's closed facts alone. THE STATEMENT IS 'LawS2493BTextToldSaid' (YbulkaypkFmtCards.lean). -/
def LawS2493BTextFormAsk : Prop := lawS2493BTextRow.holds Ybaf.pinned (OpenSpec.ofChange lawS2493BTextSpec)

/-- ITS FALSE NEIGHBOUR: 'it returns false'. Refute it at one input. -/
def lawS2493BTextWrong : ChangeSpec := { name := "lawS2493BText", vars := ["example.com/driftline/driftline.ErrInvalidTimestamp"], fn := fun _ => fun
  | [d1, d2, d3, g1] => { results := [.lit (.bool false)], args := [d1, d2, d3], vars := [g1] }
  | _ => none }
def LawS2493BTextWrongFormAsk : Prop := lawS2493BTextRow.holds Ybaf.pinned (OpenSpec.ofChange lawS2493BTextWrong)

/-- 'driftline.LawS2493BCeil': WHATEVER THE INPUT: true; the input reads as it did. -/
def lawS2493BCeilSpec : ChangeSpec := { name := "lawS2493BCeil", vars := ["example.com/driftline/driftline.ErrInvalidTimestamp"], fn := fun _ => fun
  | [d1, d2, d3, g1] => { results := [.lit (.bool true)], args := [d1, d2, d3], vars := [g1] }
  | _ => none }
def lawS2493BCeilRow : OpenClaim := { program := "ybulkaypkfmt", sum := "ccac5700ca3a26508f9a5ffe73d39a7c3d5e1c6020c1db7da390a7bc33bc01d3", func := "example.com/driftline/driftline.LawS2493BCeil", spec := "lawS2493BCeil", stops := ["fmt.errorf, its operands' methods called"], inPlace := ["fmt.errorf"], unfollowed := true, recurses := true, named := ["example.com/driftline/driftline.ErrInvalidTimestamp"], ifaces := true, apart := false, laid := [("example.com/driftline/driftline.ErrInvalidTimestamp", laid_example_com_driftline_driftline_ErrInvalidTimestamp)] }
/-- NO THEOREM (fmt's text is open here; it may be false): for the released tool's asking of the row's closed facts alone. THE STATEMENT IS 'LawS2493BCeilToldSaid' (YbulkaypkFmtCards.lean). -/
def LawS2493BCeilFormAsk : Prop := lawS2493BCeilRow.holds Ybaf.pinned (OpenSpec.ofChange lawS2493BCeilSpec)

/-- ITS FALSE NEIGHBOUR: 'it returns false'. Refute it at one input. -/
def lawS2493BCeilWrong : ChangeSpec := { name := "lawS2493BCeil", vars := ["example.com/driftline/driftline.ErrInvalidTimestamp"], fn := fun _ => fun
  | [d1, d2, d3, g1] => { results := [.lit (.bool false)], args := [d1, d2, d3], vars := [g1] }
  | _ => none }
def LawS2493BCeilWrongFormAsk : Prop := lawS2493BCeilRow.holds Ybaf.pinned (OpenSpec.ofChange lawS2493BCeilWrong)

/-- 'driftline.LawS2493CKind': WHATEVER THE INPUT: true; the input reads as it did. -/
def lawS2493CKindSpec : ChangeSpec := { name := "lawS2493CKind", vars := ["example.com/driftline/driftline.ErrClosed", "example.com/driftline/driftline.ErrClockExhausted"], fn := fun _ => fun
  | [d1, d2, d3, d4, g1, g2] => { results := [.lit (.bool true)], args := [d1, d2, d3, d4], vars := [g1, g2] }
  | _ => none }
def lawS2493CKindRow : OpenClaim := { program := "ybulkaypkfmt", sum := "ccac5700ca3a26508f9a5ffe73d39a7c3d5e1c6020c1db7da390a7bc33bc01d3", func := "example.com/driftline/driftline.LawS2493CKind", spec := "lawS2493CKind", stops := ["fmt.errorf, its operands' methods called"], inPlace := ["fmt.errorf", "internal/reflectlite.TypeOf"], unfollowed := true, recurses := true, named := ["example.com/driftline/driftline.ErrClosed", "example.com/driftline/driftline.ErrClockExhausted"], ifaces := true, apart := false, laid := [("example.com/driftline/driftline.ErrClockExhausted", laid_example_com_driftline_driftline_ErrClockExhausted), ("example.com/driftline/driftline.ErrClosed", laid_example_com_driftline_driftline_ErrClosed)] }
/-- NO THEOREM (fmt's text is open here; it may be false): for the released tool's asking of the row's closed facts alone. THE STATEMENT IS 'LawS2493CKindToldSaid' (YbulkaypkFmtCards.lean). -/
def LawS2493CKindFormAsk : Prop := lawS2493CKindRow.holds Ybaf.pinned (OpenSpec.ofChange lawS2493CKindSpec)

/-- ITS FALSE NEIGHBOUR: 'it returns false'. Refute it at one input. -/
def lawS2493CKindWrong : ChangeSpec := { name := "lawS2493CKind", vars := ["example.com/driftline/driftline.ErrClosed", "example.com/driftline/driftline.ErrClockExhausted"], fn := fun _ => fun
  | [d1, d2, d3, d4, g1, g2] => { results := [.lit (.bool false)], args := [d1, d2, d3, d4], vars := [g1, g2] }
  | _ => none }
def LawS2493CKindWrongFormAsk : Prop := lawS2493CKindRow.holds Ybaf.pinned (OpenSpec.ofChange lawS2493CKindWrong)

end Rows
end Go.Proofs.YbulkaypkFmt
