/-
  No cell of these rows narrows 'for every input' (looked for: loops, veiled, ifaces, maps, wideKeys, modest, calm, conditions, laid).
  DERIVED. THE GIVEN ROWS OF THIS SEAT. 3 by the template 'for every input the law returns true; each argument reads behind the call as it read before'; 0 by the template 'total and deterministic' (their statements: YbulkgvqTotals.lean).
  GIVEN WITH THE SEED: the statements are not yours to turn. If you find one false, say at which input.
  Laid BY PROGRAM, IN A SANDBOX (cutbox-rows.mjs): the forced cells as the released guide's own fill.sh prints them over the translation ec41521153d96121… (all of the seat's roots in one cut). By AI agents, Wed Nov 11 2026. No macro, syntax, notation, axiom, sorry.
-/
import Derived.Test.YbulkgvqChecked
import GoSem.Claim
import GoSem.ClaimJoined
import GoSem.ClaimMapViews
import Derived.JoinedTies
import Derived.KernelRfl
namespace Go.Proofs.Ybulkgvq
/- THE CELL 'sum', in the pinned program and in every row, IS THE sha256 OF THE DUMP (.gsa) THAT YbulkgvqProg.lean LOADS. Nothing in Lean hashes anything: it is a label: what it is worth is what the hold of that sum in a sandbox is worth. -/
noncomputable def Yba.pinned : Pinned := { name := "ybulkgvq", sum := "ec41521153d961216f4a1b8ada04f685d3e7b3db58904e399fe59a56f303d466", checked := Yba.checked }
namespace Rows
def none {H : Type} : Left H := { results := [], args := [] }

/-- 'decimal.LawS0380AHexTable': WHATEVER THE INPUT: true; the input reads as it did. -/
def lawS0380AHexTableSpec : ChangeSpec := { name := "lawS0380AHexTable", fn := fun _ => fun
  | [d1, d2] => { results := [.lit (.bool true)], args := [d1, d2] }
  | _ => none }
def lawS0380AHexTableRow : OpenClaim := { program := "ybulkgvq", sum := "ec41521153d961216f4a1b8ada04f685d3e7b3db58904e399fe59a56f303d466", func := "example.com/reparse/reparse/internal/decimal.LawS0380AHexTable", spec := "lawS0380AHexTable", apart := false }
def LawS0380AHexTableSaid : Prop := lawS0380AHexTableRow.holds Yba.pinned (OpenSpec.ofChange lawS0380AHexTableSpec)

/-- ITS FALSE NEIGHBOUR: 'it returns false'. Refute it at one input. -/
def lawS0380AHexTableWrong : ChangeSpec := { name := "lawS0380AHexTable", fn := fun _ => fun
  | [d1, d2] => { results := [.lit (.bool false)], args := [d1, d2] }
  | _ => none }
def LawS0380AHexTableWrongFalsely : Prop := lawS0380AHexTableRow.holds Yba.pinned (OpenSpec.ofChange lawS0380AHexTableWrong)

/-- 'decimal.LawS0380AAnyByte': WHATEVER THE INPUT: true; the input reads as it did. -/
def lawS0380AAnyByteSpec : ChangeSpec := { name := "lawS0380AAnyByte", fn := fun _ => fun
  | [d] => { results := [.lit (.bool true)], args := [d] }
  | _ => none }
def lawS0380AAnyByteRow : OpenClaim := { program := "ybulkgvq", sum := "ec41521153d961216f4a1b8ada04f685d3e7b3db58904e399fe59a56f303d466", func := "example.com/reparse/reparse/internal/decimal.LawS0380AAnyByte", spec := "lawS0380AAnyByte", apart := false }
def LawS0380AAnyByteSaid : Prop := lawS0380AAnyByteRow.holds Yba.pinned (OpenSpec.ofChange lawS0380AAnyByteSpec)

/-- ITS FALSE NEIGHBOUR: 'it returns false'. Refute it at one input. -/
def lawS0380AAnyByteWrong : ChangeSpec := { name := "lawS0380AAnyByte", fn := fun _ => fun
  | [d] => { results := [.lit (.bool false)], args := [d] }
  | _ => none }
def LawS0380AAnyByteWrongFalsely : Prop := lawS0380AAnyByteRow.holds Yba.pinned (OpenSpec.ofChange lawS0380AAnyByteWrong)

/-- 'reparse.LawS0380CLayout': WHATEVER THE INPUT: true; the input reads as it did. -/
def lawS0380CLayoutSpec : ChangeSpec := { name := "lawS0380CLayout", fn := fun _ => fun
  | [d1, d2, d3, d4] => { results := [.lit (.bool true)], args := [d1, d2, d3, d4] }
  | _ => none }
def lawS0380CLayoutRow : OpenClaim := { program := "ybulkgvq", sum := "ec41521153d961216f4a1b8ada04f685d3e7b3db58904e399fe59a56f303d466", func := "example.com/reparse/reparse.LawS0380CLayout", spec := "lawS0380CLayout", apart := false }
def LawS0380CLayoutSaid : Prop := lawS0380CLayoutRow.holds Yba.pinned (OpenSpec.ofChange lawS0380CLayoutSpec)

/-- ITS FALSE NEIGHBOUR: 'it returns false'. Refute it at one input. -/
def lawS0380CLayoutWrong : ChangeSpec := { name := "lawS0380CLayout", fn := fun _ => fun
  | [d1, d2, d3, d4] => { results := [.lit (.bool false)], args := [d1, d2, d3, d4] }
  | _ => none }
def LawS0380CLayoutWrongFalsely : Prop := lawS0380CLayoutRow.holds Yba.pinned (OpenSpec.ofChange lawS0380CLayoutWrong)

end Rows
end Go.Proofs.Ybulkgvq
