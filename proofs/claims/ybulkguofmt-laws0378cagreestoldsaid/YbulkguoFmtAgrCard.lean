import Derived.Test.YbulkguoFmtLaid
import Derived.Test.YbulkguoFmtAgrZero
namespace Go.Proofs.YbulkguoFmt
open Go.ChangeShapes Go.WideShapes Go.ChangeAt Go.RowKit Go.Kit
open Go.ChangeMaps (open_string shut_string)
open Go.Extern.Stop Go.Stop Go.Extern
set_option linter.unusedVariables false

set_option maxRecDepth 100000 in
theorem agr_lifted (os : Os) (started : os.Started) (H : Type) (enc : TypeId × Value → H) :
    ReturnsInTold none {} Ybaf.checked os 3 .any Input.okWide ((OpenSpec.ofChange Rows.lawS0378CAgreesSpec).preRow enc Ybaf.prog Ybaf.f3 Rows.lawS0378CAgreesRow.domain false Rows.lawS0378CAgreesRow.laid)
      (fun F => ((OpenSpec.ofChange Rows.lawS0378CAgreesSpec).at F).post enc Ybaf.prog Ybaf.f3 false true false false) (aloneAtReturn Ybaf.prog) nothingAlways := by
  refine returnsInTold_of_row (C := Ybaf.checked) (s := OpenSpec.ofChange Rows.lawS0378CAgreesSpec) (by kernel_rfl) Ybaf.own started (by kernel_rfl) Ybaf.func3
    (OpenSpec.witness_stopped_at (enc := enc) (C := Ybaf.checked) false (laidWorld Ybaf.prog os) #[.slice none 0 0, .int .u16 0, .int .u8 0, .string ByteArray.empty] rfl (by kernel_rfl) (by kernel_rfl) (by kernel_rfl)
      (OpenSpec.preRow_of_B rfl 8 (by kernel_rfl) (by kernel_rfl) (laid_met os _))) ?_
  intro F W base args ds gs before _ hF hval0 hW hcnd0 _ hsz hL _
  have hval : ∀ (j : Nat) t v, Ybaf.f3.params[j]? = some t → args[j]? = some v → Value.okWide Ybaf.prog W .any base t v := hval0
  have hW' := hW
  obtain ⟨p, q, hA0, hV0, rfl, hfz, hnd⟩ := hW
  have hA : DataW.TrodAll enc Ybaf.prog W 0 (fun _ => true) true Ybaf.f3.params.toList args.toList ds p := hA0
  rw [Ybaf.params3] at hA hval
  obtain ⟨v0, vs0, d0, ds0, p0, q0, hargs, rfl, rfl, h0, r0⟩ := trodAll_cons hA
  obtain ⟨v1, vs1, d1, ds1, p1, q1, rfl, rfl, rfl, h1, r1⟩ := trodAll_cons r0
  obtain ⟨v2, vs2, d2, ds2, p2, q2, rfl, rfl, rfl, h2, r2⟩ := trodAll_cons r1
  obtain ⟨v3, vs3, d3, ds3, p3, q3, rfl, rfl, rfl, h3, r3⟩ := trodAll_cons r2
  obtain ⟨rfl, rfl, rfl⟩ := trodAll_nil r3
  obtain rfl : args = #[v0, v1, v2, v3] := by cases args; simp_all
  obtain ⟨rfl, rfl⟩ := trodVars_none hV0
  obtain ⟨st, rfl, rfl, rfl, wst⟩ := open_int Ybaf.underlying23 (hval 1 23 v1 rfl rfl) h1
  obtain ⟨sel, rfl, rfl, rfl, wsel⟩ := open_int Ybaf.underlying5 (hval 2 5 v2 rfl rfl) h2
  obtain ⟨x, rfl, rfl, rfl, wx⟩ := open_string Ybaf.underlying9 (hval 3 9 v3 rfl rfl) h3
  obtain ⟨a0, len0, cap0, rfl⟩ := okWide_slice Ybaf.underlying22 (hval 0 22 v0 rfl rfl)
  have lt0 : ∀ x ∈ p0, x.block < W.heap.size := by obtain ⟨m, hm⟩ := h0; exact DataW.trod_lt m _ _ _ hm
  have hL' : laidMet Ybaf.prog [("io.ErrUnexpectedEOF", Rows.laid_io_ErrUnexpectedEOF)] W := hL
  obtain ⟨b, s, hS⟩ := sent_of_laid hL'
  obtain ⟨hlen, hdat⟩ := dat_of h0
  clear hA0 hval0 hV0
  have fin : ∀ (e : Ending) (W' : World), e = .returned (.bool true) ∧ Below W.heap.size W W' → ∃ v, e = .returned v ∧ ((OpenSpec.ofChange Rows.lawS0378CAgreesSpec).at F.told).post enc Ybaf.prog Ybaf.f3 false true false false W #[.slice a0 len0 cap0, .int .u16 st, .int .u8 sel, .string x] v W' := by
    rintro e W' ⟨rfl, bel⟩
    exact ⟨_, rfl, _, _, _, [], _, [], hW', trodAll_mk1 (shut_bool Ybaf.underlying4 _), (trodAll_cons_mk (Below.trod Ybaf.laidOut (by kernel_rfl) (of_decide_eq_true (by kernel_rfl)) h0 bel lt0) (trodAll_cons_mk (shut_int Ybaf.underlying23 wst) (trodAll_cons_mk (shut_int Ybaf.underlying5 wsel) (trodAll_cons_mk (shut_string Ybaf.underlying9 wx) trodAll_mk0)))), rfl, bel.frame _, fun h => by cases h⟩
  by_cases hbig : 1024 < len0 ∨ 1024 < x.size
  · exact (agr_big a0 len0 cap0 st sel x W hlen (by have := wx; unfold maxLen at this; omega) hbig).mono fun e W' h => fin e W' h
  · obtain ⟨zs, hD, hcase⟩ := hdat (by omega)
    have bst := bounds_u16 wst
    have bsel := bounds_u8 wsel
    rcases hcase with ⟨rfl, rfl⟩ | ⟨b0, off, rfl⟩
    · cases a0 with
      | none => exact (agr_zero_none F.told zs st sel x b s W hF hD hS bst.1 bst.2 bsel.1 bsel.2 (by omega)).mono fun e W' h => fin e W' h
      | some y => exact (agr_zero_some F.told y zs st sel x b s W hF hD hS bst.1 bst.2 bsel.1 bsel.2 (by omega)).mono fun e W' h => fin e W' h
    · exact (agr_some F.told b0 off len0 cap0 zs st sel x b s W hF hD hS bst.1 bst.2 bsel.1 bsel.2 (by omega)).mono fun e W' h => fin e W' h

/-- THE STATEMENT -/
theorem agrees_card : Rows.LawS0378CAgreesToldSaid :=
  Claim7.holds_of_told_tied_any_at .later 3 Ybaf.f3 "fmt.errorf" [] [] _ _ _ _ _ (by kernel_rfl) rfl rfl rfl Ybaf.laidOut (by kernel_rfl) rfl ⟨rfl, rfl, rfl, rfl, rfl, rfl, rfl⟩ rfl rfl (by kernel_rfl) (by kernel_rfl) Ybaf.func3 (by kernel_rfl)
    (of_decide_eq_true (by kernel_rfl)) (of_decide_eq_true (by kernel_rfl)) Ybaf.stops.symm rfl Ybaf.stopKnobs.symm (by kernel_rfl)
    (by kernel_rfl) (by kernel_rfl) (by kernel_rfl) (by kernel_rfl) (by kernel_rfl) (by kernel_rfl) (by kernel_rfl) (by kernel_rfl) (by kernel_rfl) rfl (by kernel_rfl) rfl rfl
    rfl rfl
    rfl (by kernel_rfl) (by kernel_rfl) (by kernel_rfl) (by decide) (by kernel_rfl) lawS0378CAgrees_row_tie
    (OpenClaim.moreEntering_of (by kernel_rfl) (by kernel_rfl) (by kernel_rfl) (by kernel_rfl) (by kernel_rfl) (by kernel_rfl) (by kernel_rfl) (by kernel_rfl) (by kernel_rfl) (by kernel_rfl))
    ⟨_, WideRow.started_initial, Ybaf.quiet _⟩
    (fun os started _ H enc _ => agr_lifted os started H enc)
end Go.Proofs.YbulkguoFmt
