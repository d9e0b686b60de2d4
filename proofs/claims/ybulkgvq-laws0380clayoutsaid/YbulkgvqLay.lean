import Derived.Test.YbulkgvqNum
namespace Go.Proofs.Ybulkgvq
open Go.RowKit
set_option linter.unusedVariables false

set_option maxHeartbeats 1000000 in
theorem lay_big (neg : Bool) (i f e : ByteArray) (w : World) (wi : i.size ≤ 9223372036854775807) (wf : f.size ≤ 9223372036854775807) (we : e.size ≤ 9223372036854775807) (hbig : 1048576 < i.size ∨ 1048576 < f.size ∨ 1048576 < e.size) :
    Calls Yba.prog 5 #[.bool neg, .string i, .string f, .string e] w fun en w' => en = .returned (.bool true) ∧ Grown w w' := by
  by_cases h1 : 1048576 < i.size
  · clear hbig
    go_enter Yba.func5, Yba.ntmps5
    go_wp2
    go_ret
    exact ⟨rfl, Grown.refl _⟩
  · by_cases h2 : 1048576 < f.size
    · clear hbig
      go_enter Yba.func5, Yba.ntmps5
      go_wp2
      go_ret
      exact ⟨rfl, Grown.refl _⟩
    · have h3 : 1048576 < e.size := by omega
      clear hbig
      go_enter Yba.func5, Yba.ntmps5
      go_wp2
      go_ret
      exact ⟨rfl, Grown.refl _⟩

theorem lay_walk (neg : Bool) (i f e : ByteArray) (w : World) (wi : i.size ≤ maxLen) (wf : f.size ≤ maxLen) (we : e.size ≤ maxLen) :
    Calls Yba.prog 5 #[.bool neg, .string i, .string f, .string e] w fun en w' => en = .returned (.bool true) ∧ Grown w w' := by
  unfold maxLen at wi wf we
  by_cases hbig : 1048576 < i.size ∨ 1048576 < f.size ∨ 1048576 < e.size
  · exact lay_big neg i f e w wi wf we hbig
  · have hi : i.size ≤ 1048576 := by omega
    have hf : f.size ≤ 1048576 := by omega
    have he : e.size ≤ 1048576 := by omega
    cases hfe : f.toList.isEmpty <;> cases hee : e.toList.isEmpty <;> cases neg
    · exact lay_pfe i f e w hi hf he hfe hee
    · exact lay_nfe i f e w hi hf he hfe hee
    · exact lay_pfz i f e w hi hf he hfe hee
    · exact lay_nfz i f e w hi hf he hfe hee
    · exact lay_pze i f e w hi hf he hfe hee
    · exact lay_nze i f e w hi hf he hfe hee
    · exact lay_pzz i f e w hi hf he hfe hee
    · exact lay_nzz i f e w hi hf he hfe hee
end Go.Proofs.Ybulkgvq
