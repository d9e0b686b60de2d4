import Derived.Test.YbulkguoFmtLaid
namespace Go.Proofs.YbulkguoFmt
open Go.ChangeShapes Go.WideShapes Go.ChangeAt Go.RowKit Go.Kit
open Go.ChangeMaps (open_string shut_string)
open Go.Extern.Stop Go.Stop Go.Extern
set_option linter.unusedVariables false

set_option maxRecDepth 100000 in
theorem key_lifted (os : Os) (started : os.Started) (H : Type) (enc : TypeId × Value → H) :
    ReturnsInTold none {} Ybaf.checked os 4 .any Input.okWide ((OpenSpec.ofChange Rows.lawS0378CKeywordsSpec).preRow enc Ybaf.prog Ybaf.f4 Rows.lawS0378CKeywordsRow.domain false Rows.lawS0378CKeywordsRow.laid)
      (fun F => ((OpenSpec.ofChange Rows.lawS0378CKeywordsSpec).at F).post enc Ybaf.prog Ybaf.f4 false true false false) (aloneAtReturn Ybaf.prog) nothingAlways := by
  refine returnsInTold_of_row (C := Ybaf.checked) (s := OpenSpec.ofChange Rows.lawS0378CKeywordsSpec) (by kernel_rfl) Ybaf.own started (by kernel_rfl) Ybaf.func4
    (OpenSpec.witness_stopped_at (enc := enc) (C := Ybaf.checked) false (laidWorld Ybaf.prog os) #[.slice none 0 0, .int .u16 0, .int .u8 0] rfl (by kernel_rfl) (by kernel_rfl) (by kernel_rfl)
      (OpenSpec.preRow_of_B rfl 8 (by kernel_rfl) (by kernel_rfl) (laid_met os _))) ?_
  intro F W base args ds gs before _ hF hval0 hW hcnd0 _ hsz hL _
  have hval : ∀ (j : Nat) t v, Ybaf.f4.params[j]? = some t → args[j]? = some v → Value.okWide Ybaf.prog W .any base t v := hval0
  have hW' := hW
  obtain ⟨p, q, hA0, hV0, rfl, hfz, hnd⟩ := hW
  have hA : DataW.TrodAll enc Ybaf.prog W 0 (fun _ => true) true Ybaf.f4.params.toList args.toList ds p := hA0
  rw [Ybaf.params4] at hA hval
  obtain ⟨v0, vs0, d0, ds0, p0, q0, hargs, rfl, rfl, h0, r0⟩ := trodAll_cons hA
  obtain ⟨v1, vs1, d1, ds1, p1, q1, rfl, rfl, rfl, h1, r1⟩ := trodAll_cons r0
  obtain ⟨v2, vs2, d2, ds2, p2, q2, rfl, rfl, rfl, h2, r2⟩ := trodAll_cons r1
  obtain ⟨rfl, rfl, rfl⟩ := trodAll_nil r2
  obtain rfl : args = #[v0, v1, v2] := by cases args; simp_all
  obtain ⟨rfl, rfl⟩ := trodVars_none hV0
  obtain ⟨st, rfl, rfl, rfl, wst⟩ := open_int Ybaf.underlying23 (hval 1 23 v1 rfl rfl) h1
  obtain ⟨sel, rfl, rfl, rfl, wsel⟩ := open_int Ybaf.underlying5 (hval 2 5 v2 rfl rfl) h2
  obtain ⟨a0, len0, cap0, rfl⟩ := okWide_slice Ybaf.underlying22 (hval 0 22 v0 rfl rfl)
  have lt0 : ∀ x ∈ p0, x.block < W.heap.size := by obtain ⟨m, hm⟩ := h0; exact DataW.trod_lt m _ _ _ hm
  have hL' : laidMet Ybaf.prog [("io.ErrUnexpectedEOF", Rows.laid_io_ErrUnexpectedEOF)] W := hL
  obtain ⟨b, s, hS⟩ := sent_of_laid hL'
  obtain ⟨hlen, hdat⟩ := dat_of h0
  clear hA0 hval0 hV0
  have fin : ∀ (e : Ending) (W' : World), e = .returned (.bool true) ∧ Below W.heap.size W W' → ∃ v, e = .returned v ∧ ((OpenSpec.ofChange Rows.lawS0378CKeywordsSpec).at F.told).post enc Ybaf.prog Ybaf.f4 false true false false W #[.slice a0 len0 cap0, .int .u16 st, .int .u8 sel] v W' := by
    rintro e W' ⟨rfl, bel⟩
    exact ⟨_, rfl, _, _, _, [], _, [], hW', trodAll_mk1 (shut_bool Ybaf.underlying4 _), (trodAll_cons_mk (Below.trod Ybaf.laidOut (by kernel_rfl) (of_decide_eq_true (by kernel_rfl)) h0 bel lt0) (trodAll_cons_mk (shut_int Ybaf.underlying23 wst) (trodAll_cons_mk (shut_int Ybaf.underlying5 wsel) trodAll_mk0))), rfl, bel.frame _, fun h => by cases h⟩
  by_cases hbig : 1024 < len0
  · exact (key_big a0 len0 cap0 st sel W hlen hbig).mono fun e W' h => fin e W' h
  · obtain ⟨zs, hD, _⟩ := hdat (by omega)
    exact (key_small F.told a0 len0 cap0 zs st sel b s W hF hD hS (bounds_u16 wst).1 (bounds_u16 wst).2 (bounds_u8 wsel).1 (bounds_u8 wsel).2).mono fun e W' h => fin e W' h

/-- THE STATEMENT -/
theorem keywords_card : Rows.LawS0378CKeywordsToldSaid :=
  Claim7.holds_of_told_tied_any_at .later 4 Ybaf.f4 "fmt.errorf" [] [] _ _ _ _ _ (by kernel_rfl) rfl rfl rfl Ybaf.laidOut (by kernel_rfl) rfl ⟨rfl, rfl, rfl, rfl, rfl, rfl, rfl⟩ rfl rfl (by kernel_rfl) (by kernel_rfl) Ybaf.func4 (by kernel_rfl)
    (of_decide_eq_true (by kernel_rfl)) (of_decide_eq_true (by kernel_rfl)) Ybaf.stops.symm rfl Ybaf.stopKnobs.symm (by kernel_rfl)
    (by kernel_rfl) (by kernel_rfl) (by kernel_rfl) (by kernel_rfl) (by kernel_rfl) (by kernel_rfl) (by kernel_rfl) (by kernel_rfl) (by kernel_rfl) rfl (by kernel_rfl) rfl rfl
    rfl rfl
    rfl (by kernel_rfl) (by kernel_rfl) (by kernel_rfl) (by decide) (by kernel_rfl) lawS0378CKeywords_row_tie
    (OpenClaim.moreEntering_of (by kernel_rfl) (by kernel_rfl) (by kernel_rfl) (by kernel_rfl) (by kernel_rfl) (by kernel_rfl) (by kernel_rfl) (by kernel_rfl) (by kernel_rfl) (by kernel_rfl))
    ⟨_, WideRow.started_initial, Ybaf.quiet _⟩
    (fun os started _ H enc _ => key_lifted os started H enc)
end Go.Proofs.YbulkguoFmt
