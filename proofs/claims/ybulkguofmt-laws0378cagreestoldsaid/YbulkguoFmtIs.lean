/-
  errors.Is BY ITS CONTRACTS over this program's translation: the kit's worked text (is-facts' print for another program) turned to this one's numbers. 27: error; 57: pointer to errors.errorString; 59: errors.errorString; 45: pointer to fmt.wrapError; 47: reflectlite's rtype; 49, 52, 54: the three interfaces that errors.is asserts; functions 10: errors.Is; 12: TypeOf; 36: Comparable; 32: Unwrap.
-/
import Derived.Test.YbulkguoFmtRows
import Derived.WalkKit
import Derived.LaidEql
import Derived.Stop.Asserts
import Derived.RowKitTokens
set_option linter.unusedVariables false
namespace Go.Proofs.YbulkguoFmt
open Go.RowKit Go.Extern.Stop Go.Stop Go.Extern

/-! ### CLOSED FACTS: what 'reflectlite.TypeOf(target).Comparable()' gives at such a target -/
theorem Ybaf.isTypeOf (v : Value) (w : World) : (Extern.ReflectliteType.typeOf #[.iface 57 v]).run Ybaf.prog w = .ok (.iface 47 (.agg #[.pointer (some ⟨1, 57, none⟩)])) w := by kernel_rfl
theorem Ybaf.callTypeOf (v : Value) (w : World) : (callFunc 12 #[.iface 57 v]).run Ybaf.prog w = .ok (.value (.iface 47 (.agg #[.pointer (some ⟨1, 57, none⟩)]))) w := by
  rw [@run_callFunc_extern Ybaf.prog 12 _ Extern.ReflectliteType.typeOf Ybaf.func12 (by kernel_rfl) (by kernel_rfl) (by kernel_rfl) (by kernel_rfl), Ybaf.isTypeOf]
  rfl
theorem Ybaf.isComparable (w : World) : ((Extern.ReflectliteType.method fun t => do Extern.Rtype.noPackHeld "Comparable" t; pure (.bool (← typeInfo t).comparable)) #[.agg #[.pointer (some ⟨1, 57, none⟩)]]).run Ybaf.prog w = .ok (.bool true) w := by kernel_rfl
theorem Ybaf.callComparable (w : World) : (callFunc 36 #[.agg #[.pointer (some ⟨1, 57, none⟩)]]).run Ybaf.prog w = .ok (.value (.bool true)) w := by
  rw [@run_callFunc_extern Ybaf.prog 36 _ (Extern.ReflectliteType.method fun t => do Extern.Rtype.noPackHeld "Comparable" t; pure (.bool (← typeInfo t).comparable)) Ybaf.func36 (by kernel_rfl) (by kernel_rfl) (by kernel_rfl) (by kernel_rfl), Ybaf.isComparable]
  rfl
theorem Ybaf.isMethodComparable (v : Value) (w : World) : (Go.method 198 47 v "Comparable").run Ybaf.prog w = .ok (36, v) w := by kernel_rfl
theorem Ybaf.isComp : (Ybaf.prog.info? 57).map (·.comparable) = some true := by kernel_rfl
theorem Ybaf.isSize : (Ybaf.prog.info? 59).map (·.size) = some 1 := by kernel_rfl

/-! ### CLOSED FACTS ON THE METHOD SETS: what errors.is's assertions find -/
theorem Ybaf.noIsE (v : Value) (xT : TypeId) (w : World) : (Instr.typeAssert (.iface 57 v) xT 49 true).run Ybaf.prog w = .ok (.tuple #[.nilIface, .bool false]) w := run_typeAssert_lacksB Ybaf.underlying49 (by kernel_rfl) (by kernel_rfl) v xT w
theorem Ybaf.noUnwrapE (v : Value) (xT : TypeId) (w : World) : (Instr.typeAssert (.iface 57 v) xT 52 true).run Ybaf.prog w = .ok (.tuple #[.nilIface, .bool false]) w := run_typeAssert_lacksB Ybaf.underlying52 (by kernel_rfl) (by kernel_rfl) v xT w
theorem Ybaf.noUnwrapsE (v : Value) (xT : TypeId) (w : World) : (Instr.typeAssert (.iface 57 v) xT 54 true).run Ybaf.prog w = .ok (.tuple #[.nilIface, .bool false]) w := run_typeAssert_lacksB Ybaf.underlying54 (by kernel_rfl) (by kernel_rfl) v xT w
theorem Ybaf.noIsW (v : Value) (xT : TypeId) (w : World) : (Instr.typeAssert (.iface 45 v) xT 49 true).run Ybaf.prog w = .ok (.tuple #[.nilIface, .bool false]) w := run_typeAssert_lacksB Ybaf.underlying49 (by kernel_rfl) (by kernel_rfl) v xT w
theorem Ybaf.hasUnwrapW (v : Value) (xT : TypeId) (w : World) : (Instr.typeAssert (.iface 45 v) xT 52 true).run Ybaf.prog w = .ok (.tuple #[.iface 45 v, .bool true]) w := run_typeAssert_hasB Ybaf.underlying52 (by kernel_rfl) v xT w
theorem Ybaf.methodUnwrap (v : Value) (w : World) : (Go.method 198 45 v "Unwrap").run Ybaf.prog w = .ok (32, v) w := by kernel_rfl

/-- errors.Is(x, y), two different pointers to errors.errorString: neither has Is nor Unwrap: false. -/
theorem is_other (a b : Addr) (ca cb : Array Value) (ta tb : TypeId) (w : World) (hne : a ≠ b) (ha : w.heap[a.block]? = some (.cells ca ta (0, 0))) (hb : w.heap[b.block]? = some (.cells cb tb (0, 0))) :
    Calls Ybaf.prog 10 #[.iface 57 (.pointer (some a)), .iface 57 (.pointer (some b))] w fun e w' => e = .returned (.bool false) ∧ w' = w := by
  obtain ⟨i, hi, hcmp⟩ := Option.map_eq_some_iff.1 Ybaf.isComp
  obtain ⟨j, hj, hjs⟩ := Option.map_eq_some_iff.1 Ybaf.isSize
  have h12 := Ybaf.callTypeOf
  have h36 := Ybaf.callComparable
  have mR := Ybaf.isMethodComparable
  have nE := Ybaf.noIsE
  have uE := Ybaf.noUnwrapE
  have vE := Ybaf.noUnwrapsE
  have nW := Ybaf.noIsW
  have uW := Ybaf.hasUnwrapW
  have mU := Ybaf.methodUnwrap
  have heq := run_eql_iface_ptr_other (P := Ybaf.prog) w Ybaf.underlying27 Ybaf.underlying57 hi hcmp hj (by rw [hjs]; decide) hne ha hb
  go_enter Ybaf.func10, Ybaf.ntmps10
  go_wp2
  refine wp_loop_rounds 1 ?_
  rw [rounds_succ]
  go_wp2
  go_ret
  exact ⟨rfl, rfl⟩

/-- errors.Is(e, x), e a *fmt.wrapError that wraps x itself: one Unwrap, then equal. -/
theorem is_wrap_same (pb po : Nat) (b : Addr) (w : World) (h1 : w.cell? ⟨pb, po + 1, none⟩ = some (.iface 57 (.pointer (some b)))) :
    Calls Ybaf.prog 10 #[.iface 45 (.pointer (some ⟨pb, po, none⟩)), .iface 57 (.pointer (some b))] w fun e w' => e = .returned (.bool true) ∧ w' = w := by
  obtain ⟨i, hi, hcmp⟩ := Option.map_eq_some_iff.1 Ybaf.isComp
  obtain ⟨j, hj, hjs⟩ := Option.map_eq_some_iff.1 Ybaf.isSize
  have h12 := Ybaf.callTypeOf
  have h36 := Ybaf.callComparable
  have mR := Ybaf.isMethodComparable
  have nE := Ybaf.noIsE
  have uE := Ybaf.noUnwrapE
  have vE := Ybaf.noUnwrapsE
  have nW := Ybaf.noIsW
  have uW := Ybaf.hasUnwrapW
  have mU := Ybaf.methodUnwrap
  have heq := run_eql_iface_ptr_same (P := Ybaf.prog) w b Ybaf.underlying27 Ybaf.underlying57 hi hcmp hj
  have hty := run_eql_iface_types (P := Ybaf.prog) 45 57 (.pointer (some ⟨pb, po, none⟩)) (.pointer (some b)) Ybaf.underlying27 (by decide) w
  go_enter Ybaf.func10, Ybaf.ntmps10
  go_wp2
  refine wp_loop_rounds 2 ?_
  rw [rounds_succ]
  go_wp2
  rw [rounds_succ]
  go_wp2
  go_ret
  exact ⟨rfl, rfl⟩

end Go.Proofs.YbulkguoFmt
