/-
  DERIVED. GIVEN WITH THE SEED: THE CARDS: each row of YbulkguoFmtRows.lean that lists a variable, with what it lists TIED to the program's text (the seventh form; the later family's looks); each row that meets fmt, with fmt's text TOLD by the authors' own Lean function (tested against real Go, not proved from fmt's source: count such statements apart). THE CARD IS WHAT COUNTS. Prove the row's statement (the work); the ties are given (YbulkguoFmtTie.lean); close each card by the builder's one call (the guide's Derived/Test/ToyasCard.lean, 'card_holds'). Laid BY PROGRAM, IN A SANDBOX (cutbox-door.mjs). By AI agents, Wed Nov 11 2026. No macro, syntax, notation, axiom, sorry.
-/
import Derived.Test.YbulkguoFmtRows
import GoSem.ClaimSeven
namespace Go.Proofs.YbulkguoFmt
namespace Rows

/-- THE TOLD AND TIED CARD OF 'scenario.LawS0378CAgrees'. -/
def lawS0378CAgreesCard : Claim7 := { stood := { row := lawS0378CAgreesRow, standIns := [], harness := (true, "c71e78b487927862feb66f461bf750d0d72ab11b7b97b67345f8f6d230cb8865"), looks := true }, told := true, laidByText := true, laidKinds := [.sentinel], laidTests := true, laidLooks := .later, goes := false }
def LawS0378CAgreesToldSaid : Prop := Claim7.holds Ybaf.pinned (.plain (OpenSpec.ofChange lawS0378CAgreesSpec)) lawS0378CAgreesCard
/-- ITS FALSE NEIGHBOUR. Refute it at one input. -/
def LawS0378CAgreesToldWrongFalsely : Prop := Claim7.holds Ybaf.pinned (.plain (OpenSpec.ofChange lawS0378CAgreesWrong)) lawS0378CAgreesCard

/-- THE TOLD AND TIED CARD OF 'scenario.LawS0378CKeywords'. -/
def lawS0378CKeywordsCard : Claim7 := { stood := { row := lawS0378CKeywordsRow, standIns := [], harness := (true, "c71e78b487927862feb66f461bf750d0d72ab11b7b97b67345f8f6d230cb8865"), looks := true }, told := true, laidByText := true, laidKinds := [.sentinel], laidTests := true, laidLooks := .later, goes := false }
def LawS0378CKeywordsToldSaid : Prop := Claim7.holds Ybaf.pinned (.plain (OpenSpec.ofChange lawS0378CKeywordsSpec)) lawS0378CKeywordsCard
/-- ITS FALSE NEIGHBOUR. Refute it at one input. -/
def LawS0378CKeywordsToldWrongFalsely : Prop := Claim7.holds Ybaf.pinned (.plain (OpenSpec.ofChange lawS0378CKeywordsWrong)) lawS0378CKeywordsCard
end Rows
end Go.Proofs.YbulkguoFmt
