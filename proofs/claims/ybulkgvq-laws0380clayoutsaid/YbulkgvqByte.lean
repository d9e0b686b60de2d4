import Derived.Test.YbulkgvqRows
import Derived.WalkKit
import Derived.ProofKit
import Derived.WalkSpells
import Derived.WalkLawsBesides
import Derived.Below
namespace Go.Proofs.Ybulkgvq
open Go.RowKit
set_option linter.unusedVariables false

theorem ret_bool {a : Bool} (h : a = true) : Ending.returned (.bool a) = .returned (.bool true) := by rw [h]

theorem byte_walk (c : Int) (w : World) (h0 : 0 ≤ c) (h1 : c ≤ 255) :
    Calls Yba.prog 4 #[.int .u8 c] w fun e w' => e = .returned (.bool true) ∧ w' = w := by
  rcases (show (c ≤ 47) ∨ (48 ≤ c ∧ c ≤ 57) ∨ (58 ≤ c ∧ c ≤ 64) ∨ (65 ≤ c ∧ c ≤ 96) ∨ 97 ≤ c from by omega) with h | ⟨h, h'⟩ | ⟨h, h'⟩ | ⟨h, h'⟩ | h
  all_goals
    go_enter Yba.func4, Yba.ntmps4
    go_wp2
    go_ret
  all_goals exact ⟨by first | rfl | exact ret_bool (beq_iff_eq.2 (by omega)), rfl⟩
end Go.Proofs.Ybulkgvq
