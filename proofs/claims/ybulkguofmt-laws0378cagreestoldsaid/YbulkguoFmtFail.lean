import Derived.Test.YbulkguoFmtFacts
import Derived.WalkKit
import Derived.WalkSpells
import Derived.WalkLawsBesides
import Derived.WalkSmall
import Derived.Below
import Derived.Deep.QuietTactic
import Derived.BigQuiet
namespace Go.Proofs.YbulkguoFmt
open Go.RowKit Go.Extern.Stop Go.Stop Go.Extern
set_option linter.unusedVariables false
attribute [local go_sem] Ybaf.call14 Ybaf.guard Ybaf.fmt0 Ybaf.fmt0r Ybaf.fmt1 Ybaf.fmt1r Ybaf.op9_115w Ybaf.op3_100w Ybaf.ptr57 Ybaf.elem57 Ybaf.isError57 Ybaf.ptr45 Ybaf.elem45

set_option maxHeartbeats 1000000 in
/-- 'fail' past the end: an error that wraps the sentinel. -/
theorem fail_eof (F : Interp) (a : Option Addr) (len cap : Nat) (c : Bool) (i : Int) (wh : ByteArray) (b : Addr) (s : ByteArray) (w : World) (hF : F.answers w.tape)
    (hlen : len ≤ 9223372036854775807) (hi : (len : Int) ≤ i) (hg : w.cell? ⟨0, 0, none⟩ = some (.iface 57 (.pointer (some b)))) (hs : w.cell? b = some (.string s)) (h0 : 0 < w.heap.size) (hb : b.block < w.heap.size) :
    Calls Ybaf.prog 8 #[.agg #[.slice a len cap, .bool c], .int .i64 i, .string wh] w fun e w' =>
      ∃ g, e = .returned (.iface 45 (.pointer (some ⟨g, 0, none⟩))) ∧ w'.cell? ⟨g, 0 + 1, none⟩ = some (.iface 57 (.pointer (some b))) ∧ Below w.heap.size w w' := by
  have hF' := answers_open hF
  obtain ⟨l, hop⟩ := Ybaf.opPlain57_119w "fmt.errorf" b s ((w.alloc (.cells #[.slice a len cap, .bool c] 25)).alloc (.cells #[.iface 57 (.pointer (some b))] 20)) (cell_later (((Below.refl _ w).alloc (Nat.le_refl _) _).alloc (by simp) _) hs)
  go_enter Ybaf.func8, Ybaf.ntmps8
  go_wp2
  go_ret
  refine ⟨w.heap.size + 1 + 1, rfl, ?_, ?_⟩
  · go_simp
  · exact ((((Below.refl _ w).alloc (Nat.le_refl _) _).alloc (by simp) _).alloc (by simp; omega) _).drew

theorem heap_new2 (w : World) (o1 o2 o3 : Obj) : (((w.alloc o1).alloc o2).alloc o3).drew.heap[w.heap.size + 1 + 1]? = some o3 := by
  show (((w.heap.push o1).push o2).push o3)[w.heap.size + 1 + 1]? = some o3
  rw [Array.getElem?_push]
  simp

set_option maxHeartbeats 1000000 in
/-- 'fail' at a byte: a new error without a wrap. -/
theorem fail_bad (F : Interp) (bd od len cap : Nat) (x : Int) (c : Bool) (z : Int) (k : Nat) (wh : ByteArray) (w : World) (hF : F.answers w.tape)
    (hlen : len ≤ 1024) (hcap : len ≤ cap) (hcm : cap ≤ 9223372036854775807) (hi : k < len) (hx : w.cell? ⟨bd, od + k, none⟩ = some (.int .u8 x)) (hb : bd < w.heap.size) (hz : z = (k : Int)) :
    Calls Ybaf.prog 8 #[.agg #[.slice (some ⟨bd, od, none⟩) len cap, .bool c], .int .i64 z, .string wh] w fun e w' =>
      ∃ g, e = .returned (.iface 57 (.pointer (some ⟨g, 0, none⟩))) ∧ (∃ cs, w'.heap[g]? = some (.cells cs 59 (0, 0))) ∧ w.heap.size ≤ g ∧ Below w.heap.size w w' := by
  subst hz
  have hF' := answers_open hF
  obtain ⟨l, hop⟩ := Ybaf.opByte_113w "fmt.errorf" ⟨bd, od + k, none⟩ (cap - k) x ((w.alloc (.cells #[.slice (some ⟨bd, od, none⟩) len cap, .bool c] 25)).alloc (.cells #[.iface 3 (.int .i64 ((k : Int) + 1)), .iface 22 (.slice (some ⟨bd, od + k, none⟩) 1 (cap - k)), .iface 9 (.string wh)] 20)) (cell_later (((Below.refl _ w).alloc (Nat.le_refl _) _).alloc (by simp) _) hx)
  go_enter Ybaf.func8, Ybaf.ntmps8
  go_wp2
  go_ret
  refine ⟨w.heap.size + 1 + 1, rfl, ?_, by omega, ?_⟩
  · exact ⟨_, heap_new2 _ _ _ _⟩
  · exact ((((Below.refl _ w).alloc (Nat.le_refl _) _).alloc (by simp) _).alloc (by simp; omega) _).drew
end Go.Proofs.YbulkguoFmt
