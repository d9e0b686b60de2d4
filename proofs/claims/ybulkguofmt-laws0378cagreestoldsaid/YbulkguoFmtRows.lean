/-
  NARROWER THAN 'FOR EVERY INPUT', by the rows' own cells (each row's printed sentence says how): LawS0378CAgrees: laid · LawS0378CKeywords: laid.
  DERIVED. THE GIVEN ROWS OF THIS SEAT. 2 by the template 'for every input the law returns true; each argument reads behind the call as it read before'; 0 by the template 'total and deterministic' (their statements: YbulkguoFmtTotals.lean).
  GIVEN WITH THE SEED: the statements are not yours to turn. If you find one false, say at which input.
  Laid BY PROGRAM, IN A SANDBOX (cutbox-rows.mjs): the forced cells as the released guide's own fill.sh prints them over the translation 8215ec6c1eccb69e… (all of the seat's roots in one cut). By AI agents, Wed Nov 11 2026. No macro, syntax, notation, axiom, sorry.
-/
import Derived.Test.YbulkguoFmtChecked
import GoSem.Claim
import GoSem.ClaimJoined
import GoSem.ClaimMapViews
import Derived.JoinedTies
import Derived.KernelRfl
namespace Go.Proofs.YbulkguoFmt
/- THE CELL 'sum', in the pinned program and in every row, IS THE sha256 OF THE DUMP (.gsa) THAT YbulkguoFmtProg.lean LOADS. Nothing in Lean hashes anything: it is a label: what it is worth is what the hold of that sum in a sandbox is worth. -/
noncomputable def Ybaf.pinned : Pinned := { name := "ybulkguofmt", sum := "8215ec6c1eccb69eecb141217b5fb5fd8e7e689afb8b7cd2d67d822ac983dd21", checked := Ybaf.checked }
namespace Rows
def none {H : Type} : Left H := { results := [], args := [] }

/- WHAT THE LISTED PACKAGE-LEVEL VARIABLES READ AS WHEN THE CALL BEGINS. Each datum BY PROGRAM (the guide's laid-datum.mjs) off the statement by which the dump's own 'gosem.cut.vars' lays the variable. In a bare row this is a premise. The card (YbulkguoFmtCards.lean) ties it to the program's text. -/
def laid_io_ErrUnexpectedEOF {H : Type} : DataW H := .iface "*errors.errorString" (.ptr (.agg [.lit (.string [117, 110, 101, 120, 112, 101, 99, 116, 101, 100, 32, 69, 79, 70])]))

/-- 'scenario.LawS0378CAgrees': WHATEVER THE INPUT: true; the input reads as it did. -/
def lawS0378CAgreesSpec : ChangeSpec := { name := "lawS0378CAgrees", fn := fun _ => fun
  | [d1, d2, d3, d4] => { results := [.lit (.bool true)], args := [d1, d2, d3, d4] }
  | _ => none }
def lawS0378CAgreesRow : OpenClaim := { program := "ybulkguofmt", sum := "8215ec6c1eccb69eecb141217b5fb5fd8e7e689afb8b7cd2d67d822ac983dd21", func := "example.com/plumbline/plumbline/internal/scenario.LawS0378CAgrees", spec := "lawS0378CAgrees", stops := ["fmt.errorf"], inPlace := ["fmt.errorf", "internal/reflectlite.TypeOf"], unfollowed := true, recurses := true, named := ["io.ErrUnexpectedEOF"], apart := false, laid := [("io.ErrUnexpectedEOF", laid_io_ErrUnexpectedEOF)] }
/-- NO THEOREM (fmt's text is open here; it may be false): for the released tool's asking of the row's closed facts alone. THE STATEMENT IS 'LawS0378CAgreesToldSaid' (YbulkguoFmtCards.lean). -/
def LawS0378CAgreesFormAsk : Prop := lawS0378CAgreesRow.holds Ybaf.pinned (OpenSpec.ofChange lawS0378CAgreesSpec)

/-- ITS FALSE NEIGHBOUR: 'it returns false'. Refute it at one input. -/
def lawS0378CAgreesWrong : ChangeSpec := { name := "lawS0378CAgrees", fn := fun _ => fun
  | [d1, d2, d3, d4] => { results := [.lit (.bool false)], args := [d1, d2, d3, d4] }
  | _ => none }
def LawS0378CAgreesWrongFormAsk : Prop := lawS0378CAgreesRow.holds Ybaf.pinned (OpenSpec.ofChange lawS0378CAgreesWrong)

/-- 'scenario.LawS0378CKeywords': WHATEVER THE INPUT: true; the input reads as it did. -/
def lawS0378CKeywordsSpec : ChangeSpec := { name := "lawS0378CKeywords", fn := fun _ => fun
  | [d1, d2, d3] => { results := [.lit (.bool true)], args := [d1, d2, d3] }
  | _ => none }
def lawS0378CKeywordsRow : OpenClaim := { program := "ybulkguofmt", sum := "8215ec6c1eccb69eecb141217b5fb5fd8e7e689afb8b7cd2d67d822ac983dd21", func := "example.com/plumbline/plumbline/internal/scenario.LawS0378CKeywords", spec := "lawS0378CKeywords", stops := ["fmt.errorf"], inPlace := ["fmt.errorf", "internal/reflectlite.TypeOf"], unfollowed := true, recurses := true, named := ["io.ErrUnexpectedEOF"], apart := false, laid := [("io.ErrUnexpectedEOF", laid_io_ErrUnexpectedEOF)] }
/-- NO THEOREM (fmt's text is open here; it may be false): for the released tool's asking of the row's closed facts alone. THE STATEMENT IS 'LawS0378CKeywordsToldSaid' (YbulkguoFmtCards.lean). -/
def LawS0378CKeywordsFormAsk : Prop := lawS0378CKeywordsRow.holds Ybaf.pinned (OpenSpec.ofChange lawS0378CKeywordsSpec)

/-- ITS FALSE NEIGHBOUR: 'it returns false'. Refute it at one input. -/
def lawS0378CKeywordsWrong : ChangeSpec := { name := "lawS0378CKeywords", fn := fun _ => fun
  | [d1, d2, d3] => { results := [.lit (.bool false)], args := [d1, d2, d3] }
  | _ => none }
def LawS0378CKeywordsWrongFormAsk : Prop := lawS0378CKeywordsRow.holds Ybaf.pinned (OpenSpec.ofChange lawS0378CKeywordsWrong)

end Rows
end Go.Proofs.YbulkguoFmt
