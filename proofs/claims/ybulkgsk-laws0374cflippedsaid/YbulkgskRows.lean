/-
  No cell of these rows narrows 'for every input' (looked for: loops, veiled, ifaces, maps, wideKeys, modest, calm, conditions, laid).
  DERIVED. THE GIVEN ROWS OF THIS SEAT. 2 by the template 'for every input the law returns true; each argument reads behind the call as it read before'; 0 by the template 'total and deterministic' (their statements: YbulkgskTotals.lean).
  GIVEN WITH THE SEED: the statements are not yours to turn. If you find one false, say at which input.
  Laid BY PROGRAM, IN A SANDBOX (cutbox-rows.mjs): the forced cells as the released guide's own fill.sh prints them over the translation e30ea559f653f61f… (all of the seat's roots in one cut). By AI agents, Wed Nov 11 2026. No macro, syntax, notation, axiom, sorry.
-/
import Derived.Test.YbulkgskChecked
import GoSem.Claim
import GoSem.ClaimJoined
import GoSem.ClaimMapViews
import Derived.JoinedTies
import Derived.KernelRfl
namespace Go.Proofs.Ybulkgsk
/- THE CELL 'sum', in the pinned program and in every row, IS THE sha256 OF THE DUMP (.gsa) THAT YbulkgskProg.lean LOADS. Nothing in Lean hashes anything: it is a label: what it is worth is what the hold of that sum in a sandbox is worth. -/
noncomputable def Yba.pinned : Pinned := { name := "ybulkgsk", sum := "e30ea559f653f61fcb3e895f7cf6bc024fc8a33c0d5ecede88d7503ac0d4fbe4", checked := Yba.checked }
namespace Rows
def none {H : Type} : Left H := { results := [], args := [] }

/-- 'sundial.LawS0374CModel': WHATEVER THE INPUT: true; the input reads as it did. -/
def lawS0374CModelSpec : ChangeSpec := { name := "lawS0374CModel", fn := fun _ => fun
  | [d1, d2] => { results := [.lit (.bool true)], args := [d1, d2] }
  | _ => none }
def lawS0374CModelRow : OpenClaim := { program := "ybulkgsk", sum := "e30ea559f653f61fcb3e895f7cf6bc024fc8a33c0d5ecede88d7503ac0d4fbe4", func := "example.com/sundial/sundial.LawS0374CModel", spec := "lawS0374CModel", apart := false }
def LawS0374CModelSaid : Prop := lawS0374CModelRow.holds Yba.pinned (OpenSpec.ofChange lawS0374CModelSpec)

/-- ITS FALSE NEIGHBOUR: 'it returns false'. Refute it at one input. -/
def lawS0374CModelWrong : ChangeSpec := { name := "lawS0374CModel", fn := fun _ => fun
  | [d1, d2] => { results := [.lit (.bool false)], args := [d1, d2] }
  | _ => none }
def LawS0374CModelWrongFalsely : Prop := lawS0374CModelRow.holds Yba.pinned (OpenSpec.ofChange lawS0374CModelWrong)

/-- 'sundial.LawS0374CFlipped': WHATEVER THE INPUT: true; the input reads as it did. -/
def lawS0374CFlippedSpec : ChangeSpec := { name := "lawS0374CFlipped", fn := fun _ => fun
  | [d1, d2, d3] => { results := [.lit (.bool true)], args := [d1, d2, d3] }
  | _ => none }
def lawS0374CFlippedRow : OpenClaim := { program := "ybulkgsk", sum := "e30ea559f653f61fcb3e895f7cf6bc024fc8a33c0d5ecede88d7503ac0d4fbe4", func := "example.com/sundial/sundial.LawS0374CFlipped", spec := "lawS0374CFlipped", apart := false }
def LawS0374CFlippedSaid : Prop := lawS0374CFlippedRow.holds Yba.pinned (OpenSpec.ofChange lawS0374CFlippedSpec)

/-- ITS FALSE NEIGHBOUR: 'it returns false'. Refute it at one input. -/
def lawS0374CFlippedWrong : ChangeSpec := { name := "lawS0374CFlipped", fn := fun _ => fun
  | [d1, d2, d3] => { results := [.lit (.bool false)], args := [d1, d2, d3] }
  | _ => none }
def LawS0374CFlippedWrongFalsely : Prop := lawS0374CFlippedRow.holds Yba.pinned (OpenSpec.ofChange lawS0374CFlippedWrong)

end Rows
end Go.Proofs.Ybulkgsk
