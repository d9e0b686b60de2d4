import Derived.Test.YbulkguoRows
import Derived.WalkKit
import Derived.ProofKit
import Derived.WalkSpells
import Derived.WalkLawsBesides
import Derived.Below
import Derived.LaidEqlPtr
import Derived.Lib.Builder
namespace Go.Proofs.Ybulkguo
open Go.RowKit
open Go.Lib (run_neq_ptr_same)
set_option linter.unusedVariables false

theorem ta23 (a : Option Addr) (w : World) : (Instr.typeAssert (.iface 23 (.pointer a)) 78 23 true).run Yba.prog w = .ok (.tuple #[.pointer a, .bool true]) w := by kernel_rfl
theorem ta22 (a : Option Addr) (w : World) : (Instr.typeAssert (.iface 22 (.pointer a)) 78 22 true).run Yba.prog w = .ok (.tuple #[.pointer a, .bool true]) w := by kernel_rfl

def zeroAgg (P : Program) (t : TypeId) : Bool := match P.info? t with
  | some i => match i.zero with
    | some (.agg _) => true
    | _ => false
  | none => false

theorem zero_of {P : Program} {t : TypeId} (h : zeroAgg P t = true) : ∃ cs : Array Value, ∀ w : World, (zeroValue t).run P w = .ok (.agg cs) w := by
  unfold zeroAgg at h
  split at h
  · rename_i i hi
    split at h
    · rename_i cs hz
      exact ⟨cs, fun w => by simp [zeroValue, typeInfo, hi, hz]⟩
    · cases h
  · cases h

theorem inf66 : (Yba.prog.info? 66).isSome = true := by kernel_rfl
theorem inf54 : (Yba.prog.info? 54).isSome = true := by kernel_rfl
theorem agg66 : zeroAgg Yba.prog 66 = true := by kernel_rfl
theorem agg54 : zeroAgg Yba.prog 54 = true := by kernel_rfl

set_option maxRecDepth 100000 in
set_option maxHeartbeats 1000000 in
theorem tree_ff (st : Bool) (p t : Int) (w : World) :
    Calls Yba.prog 3 #[.bool false, .bool false, .bool st, .int .i64 p, .int .i64 t] w fun e w' => e = .returned (.bool true) ∧ Grown w w' := by
  have h23 := ta23
  have h22 := ta22
  obtain ⟨j66, hj66⟩ := Option.isSome_iff_exists.1 inf66
  obtain ⟨j54, hj54⟩ := Option.isSome_iff_exists.1 inf54
  have q1 := fun (w : World) (a : Addr) => run_eql_ptr_same w a Yba.underlying22 hj54
  have q2 := fun (w : World) (a : Addr) => run_eql_ptr_same w a Yba.underlying23 hj66
  have q3 := fun (w : World) (a : Addr) => run_neq_ptr_same w a Yba.underlying22 hj54
  have q4 := fun (w : World) (a : Addr) => run_neq_ptr_same w a Yba.underlying23 hj66
  clear hj66 hj54
  obtain ⟨c66, hz66⟩ := zero_of agg66
  obtain ⟨c54, hz54⟩ := zero_of agg54
  go_enter Yba.func3, Yba.ntmps3
  go_wp2
  go_ret
  exact ⟨rfl, by repeat (first | exact Grown.refl _ | apply Grown.drew | apply Grown.alloc)⟩

set_option maxRecDepth 100000 in
set_option maxHeartbeats 1000000 in
theorem tree_ft (st : Bool) (p t : Int) (w : World) :
    Calls Yba.prog 3 #[.bool false, .bool true, .bool st, .int .i64 p, .int .i64 t] w fun e w' => e = .returned (.bool true) ∧ Grown w w' := by
  have h23 := ta23
  have h22 := ta22
  obtain ⟨j66, hj66⟩ := Option.isSome_iff_exists.1 inf66
  obtain ⟨j54, hj54⟩ := Option.isSome_iff_exists.1 inf54
  have q1 := fun (w : World) (a : Addr) => run_eql_ptr_same w a Yba.underlying22 hj54
  have q2 := fun (w : World) (a : Addr) => run_eql_ptr_same w a Yba.underlying23 hj66
  have q3 := fun (w : World) (a : Addr) => run_neq_ptr_same w a Yba.underlying22 hj54
  have q4 := fun (w : World) (a : Addr) => run_neq_ptr_same w a Yba.underlying23 hj66
  clear hj66 hj54
  obtain ⟨c66, hz66⟩ := zero_of agg66
  obtain ⟨c54, hz54⟩ := zero_of agg54
  go_enter Yba.func3, Yba.ntmps3
  go_wp2
  go_ret
  exact ⟨rfl, by repeat (first | exact Grown.refl _ | apply Grown.drew | apply Grown.alloc)⟩

set_option maxRecDepth 100000 in
set_option maxHeartbeats 1000000 in
theorem tree_tf (st : Bool) (p t : Int) (w : World) :
    Calls Yba.prog 3 #[.bool true, .bool false, .bool st, .int .i64 p, .int .i64 t] w fun e w' => e = .returned (.bool true) ∧ Grown w w' := by
  have h23 := ta23
  have h22 := ta22
  obtain ⟨j66, hj66⟩ := Option.isSome_iff_exists.1 inf66
  obtain ⟨j54, hj54⟩ := Option.isSome_iff_exists.1 inf54
  have q1 := fun (w : World) (a : Addr) => run_eql_ptr_same w a Yba.underlying22 hj54
  have q2 := fun (w : World) (a : Addr) => run_eql_ptr_same w a Yba.underlying23 hj66
  have q3 := fun (w : World) (a : Addr) => run_neq_ptr_same w a Yba.underlying22 hj54
  have q4 := fun (w : World) (a : Addr) => run_neq_ptr_same w a Yba.underlying23 hj66
  clear hj66 hj54
  obtain ⟨c66, hz66⟩ := zero_of agg66
  obtain ⟨c54, hz54⟩ := zero_of agg54
  go_enter Yba.func3, Yba.ntmps3
  go_wp2
  go_ret
  exact ⟨rfl, by repeat (first | exact Grown.refl _ | apply Grown.drew | apply Grown.alloc)⟩

set_option maxRecDepth 100000 in
set_option maxHeartbeats 1000000 in
theorem tree_tt (st : Bool) (p t : Int) (w : World) :
    Calls Yba.prog 3 #[.bool true, .bool true, .bool st, .int .i64 p, .int .i64 t] w fun e w' => e = .returned (.bool true) ∧ Grown w w' := by
  have h23 := ta23
  have h22 := ta22
  obtain ⟨j66, hj66⟩ := Option.isSome_iff_exists.1 inf66
  obtain ⟨j54, hj54⟩ := Option.isSome_iff_exists.1 inf54
  have q1 := fun (w : World) (a : Addr) => run_eql_ptr_same w a Yba.underlying22 hj54
  have q2 := fun (w : World) (a : Addr) => run_eql_ptr_same w a Yba.underlying23 hj66
  have q3 := fun (w : World) (a : Addr) => run_neq_ptr_same w a Yba.underlying22 hj54
  have q4 := fun (w : World) (a : Addr) => run_neq_ptr_same w a Yba.underlying23 hj66
  clear hj66 hj54
  obtain ⟨c66, hz66⟩ := zero_of agg66
  obtain ⟨c54, hz54⟩ := zero_of agg54
  go_enter Yba.func3, Yba.ntmps3
  go_wp2
  go_ret
  exact ⟨rfl, by repeat (first | exact Grown.refl _ | apply Grown.drew | apply Grown.alloc)⟩

theorem tree_walk (a0 a1 st : Bool) (p t : Int) (w : World) :
    Calls Yba.prog 3 #[.bool a0, .bool a1, .bool st, .int .i64 p, .int .i64 t] w fun e w' => e = .returned (.bool true) ∧ Grown w w' := by
  cases a0 <;> cases a1
  · exact tree_ff st p t w
  · exact tree_ft st p t w
  · exact tree_tf st p t w
  · exact tree_tt st p t w
end Go.Proofs.Ybulkguo
