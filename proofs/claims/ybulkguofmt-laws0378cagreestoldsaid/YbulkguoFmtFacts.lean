/-
  THE CLOSED FACTS FOR A WALK OVER fmt.errorf's STOP in this program's translation: the make of the kit's worked texts (SentryFmt, CheckFmt, TagSlice), at this program's numbers. 9: string; 3: int; 22: a slice of bytes; 27: error; 43: the variadic slice; 57, 59: pointer to errors.errorString and its struct; 45, 84: pointer to fmt.wrapError and its struct.
-/
import Derived.Test.YbulkguoFmtRows
import Derived.Stop.CallBack
import Derived.Stop.IfaceNil
import Derived.Laws.Cells
import Derived.Stop.FmtTextSlices
import GoSem.ClaimData
namespace Go.Proofs.YbulkguoFmt
open Go.Extern.Stop Go.Stop Go.Extern
set_option linter.unusedVariables false

theorem Ybaf.call14 (args : Array Value) (w : World) : (callFunc 14 args).run Ybaf.prog w = ((FmtStop.errorf #[9, 43] #[27] args).run Ybaf.prog w).andThen fun v w' => .ok (.value v) w' :=
  run_callFunc_extern Ybaf.func14 (by kernel_rfl) (by kernel_rfl) (by kernel_rfl) (by kernel_rfl) args w

theorem Ybaf.guard (name : String) (w : World) : (FmtStop.guard name).run Ybaf.prog w = .ok () w := by kernel_rfl

theorem Ybaf.fmt0 : FmtStop.printed? ⟨#[110, 111, 116, 32, 97, 32, 118, 97, 108, 105, 100, 32, 74, 83, 79, 78, 32, 111, 98, 106, 101, 99, 116, 58, 32, 37, 119]⟩ 1 = some [(0, 119, false)] := by kernel_rfl
theorem Ybaf.fmt0r (w : World) : (FmtDoors.printed ⟨#[110, 111, 116, 32, 97, 32, 118, 97, 108, 105, 100, 32, 74, 83, 79, 78, 32, 111, 98, 106, 101, 99, 116, 58, 32, 37, 119]⟩ 1).run Ybaf.prog w = .ok [(0, 119, false)] w := by kernel_rfl
theorem Ybaf.fmt1 : FmtStop.printed? ⟨#[110, 111, 116, 32, 97, 32, 118, 97, 108, 105, 100, 32, 74, 83, 79, 78, 32, 111, 98, 106, 101, 99, 116, 58, 32, 99, 111, 108, 117, 109, 110, 32, 37, 100, 58, 32, 37, 113, 32, 37, 115]⟩ 3 = some [(0, 100, false), (1, 113, false), (2, 115, false)] := by kernel_rfl
theorem Ybaf.fmt1r (w : World) : (FmtDoors.printed ⟨#[110, 111, 116, 32, 97, 32, 118, 97, 108, 105, 100, 32, 74, 83, 79, 78, 32, 111, 98, 106, 101, 99, 116, 58, 32, 99, 111, 108, 117, 109, 110, 32, 37, 100, 58, 32, 37, 113, 32, 37, 115]⟩ 3).run Ybaf.prog w = .ok [(0, 100, false), (1, 113, false), (2, 115, false)] w := by kernel_rfl

def Ybaf.shape9 : List UInt8 := [12, 6, 0, 0, 0, 0, 0, 0, 0, 115, 116, 114, 105, 110, 103]
theorem Ybaf.op9_115w (name : String) (x : ByteArray) (w : World) : (FmtStop.operand name true 115 false (.iface 9 (.string x))).run Ybaf.prog w = .ok (Ybaf.shape9, FmtStop.pack x.data.toList) w := by kernel_rfl
def Ybaf.shape3 : List UInt8 := [5, 3, 0, 0, 0, 0, 0, 0, 0, 105, 110, 116]
theorem Ybaf.op3_100w (name : String) (x : Int) (w : World) : (FmtStop.operand name true 100 false (.iface 3 (.int .i64 x))).run Ybaf.prog w = .ok (Ybaf.shape3, Go.Extern.Stop.digits 8 (x % 2 ^ 64).toNat) w := by kernel_rfl

theorem Ybaf.ptr57 (w : World) : (FmtStop.ptrTo "errors.errorString").run Ybaf.prog w = .ok 57 w := by kernel_rfl
theorem Ybaf.elem57 (w : World) : (elemOf 57).run Ybaf.prog w = .ok 59 w := by kernel_rfl
theorem Ybaf.isError57 (w : World) : (FmtDoors.textMethod 57 "Error").run Ybaf.prog w = .ok true w := by kernel_rfl
/-- the name of the sentinel's type, off the given row's own datum -/
def errName : String := match (Rows.laid_io_ErrUnexpectedEOF : DataW Unit) with
  | .iface nm _ => nm
  | _ => ""
/-- a type's name as the program spells it -/
def nameOf (P : Program) (t : TypeId) : String := ((P.info? t).map (·.str)).getD ""

theorem Ybaf.opPlain57_119w (name : String) (a : Addr) (s : ByteArray) (w : World) (hc : w.cell? a = some (.string s)) :
    ∃ l, (FmtStop.operand name true 119 false (.iface 57 (.pointer (some a)))).run Ybaf.prog w = .ok l w := by
  refine ⟨(14 :: FmtStop.pack errName.toUTF8.data.toList, s.data.toList), ?_⟩
  have h1 : (typeStr 57).run Ybaf.prog w = .ok errName w := by kernel_rfl
  have d2 : Ybaf.t57.desc = .pointer 59 := rfl
  have d3 : Ybaf.t59.desc = .named "errors.errorString" 58 := rfl
  simp [FmtStop.operand, h1, d2, d3, run_load, hc]
theorem Ybaf.ptr45 (w : World) : (FmtStop.ptrTo "fmt.wrapError").run Ybaf.prog w = .ok 45 w := by kernel_rfl
theorem Ybaf.elem45 (w : World) : (elemOf 45).run Ybaf.prog w = .ok 84 w := by kernel_rfl

theorem Ybaf.value5 (name : String) (x : Int) (w : World) : (FmtStop.value name FmtStop.depth 5 [.int .u8 x]).run Ybaf.prog w = .ok (digits 8 (x % 2 ^ 64).toNat) w := by kernel_rfl

theorem Ybaf.opByte_113w (name : String) (a : Addr) (cap : Nat) (x : Int) (w : World) (hc : w.cell? a = some (.int .u8 x)) :
    ∃ l, (FmtStop.operand name true 113 false (.iface 22 (.slice (some a) 1 cap))).run Ybaf.prog w = .ok l w := by
  refine ⟨(13 :: (FmtStop.pack (nameOf Ybaf.prog 22).toUTF8.data.toList ++ 6 :: FmtStop.pack "uint8".toUTF8.data.toList), 1 :: (digits 8 1 ++ FmtText.intValues [x])), ?_⟩
  have h1 : (typeStr 22).run Ybaf.prog w = .ok (nameOf Ybaf.prog 22) w := by kernel_rfl
  have d2 : Ybaf.t22.desc = .slice 5 := rfl
  have hb : (FmtStop.bare (FmtStop.asked true 113 false) 22).run Ybaf.prog w = .ok true w := by kernel_rfl
  have hs : (FmtStop.scalar 5).run Ybaf.prog w = .ok true w := by kernel_rfl
  have hy : (Extern.Stop.isByte 5).run Ybaf.prog w = .ok true w := by kernel_rfl
  have hw : Ybaf.prog.funcs.any (·.name == FmtStop.writeWord) = true := by kernel_rfl
  have hsh : (FmtStop.shape name (FmtStop.asked true 113 false) FmtStop.depth 5).run Ybaf.prog w = .ok (6 :: FmtStop.pack "uint8".toUTF8.data.toList) w := by kernel_rfl
  have hl := run_loadCells_list (P := Ybaf.prog) w a [Value.int .u8 x] (fun j v hj => by
    match j, hj with
    | 0, hj => simp at hj; subst hj; simpa [Addr.add] using hc)
  have hv := Ybaf.value5 name x w
  simp only [List.length_cons, List.length_nil, Nat.zero_add] at hl
  simp [FmtStop.operand, h1, hb, hs, hy, hsh, hl, hv, FmtText.intValues, List.mapM_cons, Result.andThen]
  intro hno
  obtain ⟨i, hi, _, _, he⟩ := Array.any_iff_exists.1 hw
  exact absurd (by simpa using he) (hno i hi)
end Go.Proofs.YbulkguoFmt
