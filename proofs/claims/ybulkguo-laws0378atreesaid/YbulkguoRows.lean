/-
  No cell of these rows narrows 'for every input' (looked for: loops, veiled, ifaces, maps, wideKeys, modest, calm, conditions, laid).
  DERIVED. THE GIVEN ROWS OF THIS SEAT. 1 by the template 'for every input the law returns true; each argument reads behind the call as it read before'; 0 by the template 'total and deterministic' (their statements: YbulkguoTotals.lean).
  GIVEN WITH THE SEED: the statements are not yours to turn. If you find one false, say at which input.
  Laid BY PROGRAM, IN A SANDBOX (cutbox-rows.mjs): the forced cells as the released guide's own fill.sh prints them over the translation 14c617a0d21e9a54… (all of the seat's roots in one cut). By AI agents, Wed Nov 11 2026. No macro, syntax, notation, axiom, sorry.
-/
import Derived.Test.YbulkguoChecked
import GoSem.Claim
import GoSem.ClaimJoined
import GoSem.ClaimMapViews
import Derived.JoinedTies
import Derived.KernelRfl
namespace Go.Proofs.Ybulkguo
/- THE CELL 'sum', in the pinned program and in every row, IS THE sha256 OF THE DUMP (.gsa) THAT YbulkguoProg.lean LOADS. Nothing in Lean hashes anything: it is a label: what it is worth is what the hold of that sum in a sandbox is worth. -/
noncomputable def Yba.pinned : Pinned := { name := "ybulkguo", sum := "14c617a0d21e9a54de6e79b7825d5f68be9f7d5e14ba6dcf1d564c15924de574", checked := Yba.checked }
namespace Rows
def none {H : Type} : Left H := { results := [], args := [] }

/-- 'scenario.LawS0378ATree': WHATEVER THE INPUT: true; the input reads as it did. -/
def lawS0378ATreeSpec : ChangeSpec := { name := "lawS0378ATree", fn := fun _ => fun
  | [d1, d2, d3, d4, d5] => { results := [.lit (.bool true)], args := [d1, d2, d3, d4, d5] }
  | _ => none }
def lawS0378ATreeRow : OpenClaim := { program := "ybulkguo", sum := "14c617a0d21e9a54de6e79b7825d5f68be9f7d5e14ba6dcf1d564c15924de574", func := "example.com/plumbline/plumbline/internal/scenario.LawS0378ATree", spec := "lawS0378ATree", plainKeys := false, apart := false }
def LawS0378ATreeSaid : Prop := lawS0378ATreeRow.holds Yba.pinned (OpenSpec.ofChange lawS0378ATreeSpec)

/-- ITS FALSE NEIGHBOUR: 'it returns false'. Refute it at one input. -/
def lawS0378ATreeWrong : ChangeSpec := { name := "lawS0378ATree", fn := fun _ => fun
  | [d1, d2, d3, d4, d5] => { results := [.lit (.bool false)], args := [d1, d2, d3, d4, d5] }
  | _ => none }
def LawS0378ATreeWrongFalsely : Prop := lawS0378ATreeRow.holds Yba.pinned (OpenSpec.ofChange lawS0378ATreeWrong)

end Rows
end Go.Proofs.Ybulkguo
