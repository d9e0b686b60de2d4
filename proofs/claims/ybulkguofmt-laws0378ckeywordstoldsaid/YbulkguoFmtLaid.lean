/-
  What 'laid' gives the walks; one start that fits: after the kit's worked texts (GuardProofs, PortSeven), at this program's numbers.
-/
import Derived.Test.YbulkguoFmtKey
import Derived.Test.YbulkguoFmtCards
import Derived.Test.YbulkguoFmtTie
import Derived.ChangeSame
import Derived.ChangeVars
import Derived.ChangeMaps5
import Derived.JoinedOf
import Derived.RowKit
import Derived.RowKitTokens
import Derived.OpenShut
import Derived.Carry
import Derived.SizedLaws
import Derived.Stop.JoinedAt
import Derived.Stop.JoinedTold
import Derived.Stop.Texts
import Derived.Stop.LaidErr
import Derived.SevenTiedAt
namespace Go.Proofs.YbulkguoFmt
open Go.ChangeShapes Go.WideShapes Go.ChangeAt Go.RowKit Go.Kit
open Go.ChangeMaps (open_string shut_string)
open Go.Extern.Stop Go.Stop Go.Extern
set_option linter.unusedVariables false

theorem Ybaf.own : ownKnob Ybaf.prog.godebug = none := by kernel_rfl
theorem Ybaf.laidOut : laidOutB Ybaf.pinned.checked.prog = true := by kernel_rfl
theorem Ybaf.stops : Ybaf.pinned.checked.prog.stops = ["fmt.errorf"] := by kernel_rfl
theorem Ybaf.stopKnobs : Ybaf.pinned.checked.prog.stopKnobs = [] := by kernel_rfl
theorem Ybaf.quiet (os : Os) : Stop.quiet Ybaf.pinned.checked.prog os := by
  intro k hk
  rw [Ybaf.stopKnobs] at hk
  cases hk

theorem Ybaf.gE : Ybaf.prog.globalNamed "io.ErrUnexpectedEOF" = some 0 := by kernel_rfl
theorem Ybaf.gEType : (Ybaf.prog.globals[0]?).map (·.type) = some 27 := by kernel_rfl
theorem Ybaf.cells59 : Ybaf.prog.cellsOf 59 = 1 := by kernel_rfl
theorem Ybaf.cells9 : Ybaf.prog.cellsOf 9 = 1 := by kernel_rfl
theorem Ybaf.row57 (u : TypeId) (h : Ybaf.prog.typeName? 3 u = some errName) : u = 57 := by
  refine typeName_ptr_named (P := Ybaf.prog) (nm := "errors.errorString") (tp := 57) (by kernel_rfl) (by kernel_rfl) (by decide) u ?_
  refine h.trans (congrArg some ?_)
  decide +kernel

/-- the settled world with one block more, an errors.errorString; variable 0 holds a pointer to it -/
def laidWorld (P : Program) (os : Os) : World :=
  let w0 := World.holding P os ⟨#[.cells #[.string ⟨#[117, 110, 101, 120, 112, 101, 99, 116, 101, 100, 32, 69, 79, 70]⟩] 59], #[], []⟩
  { w0 with heap := w0.heap.modify 0 fun
      | .cells _ t frozen => .cells #[.iface 57 (.pointer (some ⟨(World.holding P default ⟨#[], #[], []⟩).heap.size, 0, none⟩))] t frozen
      | o => o }

theorem laid_met (os : Os) (args : Array Value) : laidMet Ybaf.prog [("io.ErrUnexpectedEOF", Rows.laid_io_ErrUnexpectedEOF)] ((laidWorld Ybaf.prog os).forCall (fun _ _ => 0) ⟨#[], args, []⟩).memory :=
  laidMet_of_run (ps := [.cell 0 0, .cell (World.holding Ybaf.prog default ⟨#[], #[], []⟩).heap.size 0]) 8 (by kernel_rfl) (by kernel_rfl) (by kernel_rfl)

/-- the sentinel, off 'laid' -/
theorem sent_of_laid {W : World} (h : laidMet Ybaf.prog [("io.ErrUnexpectedEOF", Rows.laid_io_ErrUnexpectedEOF)] W) : ∃ b s, Sent W b s := by
  have h0 := h
  obtain ⟨ps, ⟨g0, t0, cs0, f0, p0, q0, hg0, ht0, hv0, hd0, _, e0⟩, _, hrows⟩ := h
  obtain rfl := Option.some.inj (Ybaf.gE.symm.trans hg0)
  obtain rfl := Option.some.inj (Ybaf.gEType.symm.trans ht0)
  subst e0
  obtain ⟨l0⟩ := cs0
  have ok0 : ∀ u v, l0 = [.iface u v] → Value.okWide Ybaf.prog W .any 0 u v := fun u v e => by
    subst e
    exact (hrows 0 0 (by simp [MemPlace.row])).2 u v (by simpa using World.var?_cell hg0 hv0 0)
  obtain ⟨a0, s0, rfl, hc0, hs0, hz0, rfl⟩ := errorString_of_trod Ybaf.underlying27 Ybaf.row57 Ybaf.underlying57 Ybaf.underlying59 rfl rfl Ybaf.underlying9 Ybaf.cells59 Ybaf.cells9 hd0 ok0
  obtain ⟨c0, t0, hb0⟩ := (hrows a0.block a0.off (by simp [MemPlace.row])).1
  exact ⟨a0, s0, by simpa using World.var?_cell Ybaf.gE hv0 0, hc0, c0, t0, hb0⟩

/-- the slice of bytes, opened -/
theorem dat_of {H : Type} {enc : TypeId × Value → H} {W : World} {a : Option Addr} {len cap : Nat} {d : DataW H} {ps : List MemPlace} (h : DataW.Trod enc Ybaf.prog W 0 (fun _ => true) true 22 (.slice a len cap) d ps) :
    len ≤ 9223372036854775807 ∧ (len ≤ 1024 → ∃ zs, Dat W a len cap zs ∧ ((len = 0 ∧ cap = 0) ∨ ∃ b off, a = some ⟨b, off, none⟩)) := by
  obtain ⟨fuel, hf⟩ := h
  rcases open_ints Ybaf.underlying22 Ybaf.underlying5 (by kernel_rfl) hf with ⟨hcs, _⟩ | ⟨x, l, c, zs, hcs, _, hl, hm, hz, _, hcell, hwz⟩
  · simp [Value.cells] at hcs
    obtain ⟨rfl, rfl, rfl⟩ := hcs
    exact ⟨by omega, fun _ => ⟨[], ⟨by omega, Nat.le_refl _, by omega, fun k => by simp, Or.inl rfl⟩, Or.inl ⟨rfl, rfl⟩⟩⟩
  · simp [Value.cells] at hcs
    obtain ⟨rfl, rfl, rfl⟩ := hcs
    unfold maxLen at hm
    have hz' : zs.length = cap := by simpa using hz
    refine ⟨by omega, fun hs => ⟨zs, ⟨hs, hl, hm, fun k => ?_, ?_⟩, ?_⟩⟩
    · have := range_u8 hwz k
      simpa [List.getD] using this
    · by_cases h0 : len = 0
      · exact Or.inl h0
      · obtain ⟨b, off, rfl, hc'⟩ := ints_at hcell (by omega)
        exact Or.inr ⟨b, off, rfl, World.block_lt_of_cell? _ _ (hc' 0 (by omega)), fun k hk => hc' k (by omega)⟩
    · by_cases h0 : cap = 0
      · exact Or.inl ⟨by omega, h0⟩
      · obtain ⟨b, off, rfl, _⟩ := ints_at hcell (by omega)
        exact Or.inr ⟨b, off, rfl⟩
end Go.Proofs.YbulkguoFmt
