import Derived.Test.YbulkguoFmtAgr
namespace Go.Proofs.YbulkguoFmt
open Go.RowKit Go.Extern.Stop Go.Stop Go.Extern
set_option linter.unusedVariables false

theorem conv_some (x : Addr) (w : World) : (convert 22 9 (.slice (some x) 0 0)).run Ybaf.prog w = .ok (.string ByteArray.empty) w := by
  rw [run_convert_bytes_string w 22 9 5 (some x) 0 0 Ybaf.underlying22 Ybaf.underlying5 Ybaf.underlying9]
  have hl := run_loadCells_list (P := Ybaf.prog) w x [] (fun j v hj => by simp at hj)
  exact run_bytesToString w x 0 0 [] (by simpa using hl)

theorem conv_none (w : World) : (convert 22 9 (.slice none 0 0)).run Ybaf.prog w = .ok (.string ByteArray.empty) w :=
  run_convert_bytes_nil w 22 5 Ybaf.underlying22 Ybaf.underlying5 0 0 9 Ybaf.underlying9

set_option maxHeartbeats 1000000 in
theorem agr_zero_some (F : Interp) (y : Addr) (zs : List Int) (st tk : Int) (x : ByteArray) (b : Addr) (s : ByteArray) (w : World) (hF : F.answers w.tape) (hD : Dat w (some y) 0 0 zs) (hS : Sent w b s)
    (hs0 : 0 ≤ st) (hs1 : st ≤ 65535) (hl0 : 0 ≤ tk) (hl1 : tk ≤ 255) (hx : x.size ≤ 1024) :
    Calls Ybaf.prog 3 #[.slice (some y) 0 0, .int .u16 st, .int .u8 tk, .string x] w fun e w' => e = .returned (.bool true) ∧ Below w.heap.size w w' := by
  obtain ⟨q, hq, hcv⟩ : ∃ q : ByteArray, q.size ≤ 7 ∧ (convert 22 9 (.slice (some y) 0 0)).run Ybaf.prog w = .ok (.string q) w := ⟨ByteArray.empty, by decide, conv_some y w⟩
  have hways : (tk % 8 = 0) ∨ (0 < tk % 8) := by omega
  rcases (show st % 2 = 0 ∨ st % 2 = 1 from by omega) with hI | hI
  · rcases hways with ht | ht
    all_goals
      go_enter Ybaf.func3, Ybaf.ntmps3
      go_wp2_with fail
    all_goals
      refine (lit_check F _ _ _ zs true _ 0 _ b s _ ?_ ?_ ?_ rfl ?_ ?_).mono ?_
      · exact hF
      · exact hD.below ((Below.refl _ w).alloc (Nat.le_refl _) _)
      · exact hS.below ((Below.refl _ w).alloc (Nat.le_refl _) _)
      · omega
      · rw [ByteArray.size_append]
        omega
      rintro e w2 ⟨got, err, rfl, hb2, HC⟩
      clear hcv
      go_wp2_with fail
      refine HC.out.mono ?_
      rintro e w3 ⟨rfl, rfl⟩
      go_wp2
      go_ret
      exact ⟨rfl, ((Below.refl _ w).alloc (Nat.le_refl _) _).trans (hb2.mono (by simp))⟩
  · rcases hways with ht | ht
    all_goals
      go_enter Ybaf.func3, Ybaf.ntmps3
      go_wp2_with fail
    all_goals
      refine (lit_check F _ _ _ zs true _ 1 _ b s _ ?_ ?_ ?_ rfl ?_ ?_).mono ?_
      · exact hF
      · exact hD.below ((Below.refl _ w).alloc (Nat.le_refl _) _)
      · exact hS.below ((Below.refl _ w).alloc (Nat.le_refl _) _)
      · omega
      · rw [ByteArray.size_append]
        omega
      rintro e w2 ⟨got, err, rfl, hb2, HC⟩
      clear hcv
      go_wp2_with fail
      refine HC.out.mono ?_
      rintro e w3 ⟨rfl, rfl⟩
      go_wp2
      go_ret
      exact ⟨rfl, ((Below.refl _ w).alloc (Nat.le_refl _) _).trans (hb2.mono (by simp))⟩

set_option maxHeartbeats 1000000 in
theorem agr_zero_none (F : Interp) (zs : List Int) (st tk : Int) (x : ByteArray) (b : Addr) (s : ByteArray) (w : World) (hF : F.answers w.tape) (hD : Dat w none 0 0 zs) (hS : Sent w b s)
    (hs0 : 0 ≤ st) (hs1 : st ≤ 65535) (hl0 : 0 ≤ tk) (hl1 : tk ≤ 255) (hx : x.size ≤ 1024) :
    Calls Ybaf.prog 3 #[.slice none 0 0, .int .u16 st, .int .u8 tk, .string x] w fun e w' => e = .returned (.bool true) ∧ Below w.heap.size w w' := by
  obtain ⟨q, hq, hcv⟩ : ∃ q : ByteArray, q.size ≤ 7 ∧ (convert 22 9 (.slice none 0 0)).run Ybaf.prog w = .ok (.string q) w := ⟨ByteArray.empty, by decide, conv_none w⟩
  have hways : (tk % 8 = 0) ∨ (0 < tk % 8) := by omega
  rcases (show st % 2 = 0 ∨ st % 2 = 1 from by omega) with hI | hI
  · rcases hways with ht | ht
    all_goals
      go_enter Ybaf.func3, Ybaf.ntmps3
      go_wp2_with fail
    all_goals
      refine (lit_check F _ _ _ zs true _ 0 _ b s _ ?_ ?_ ?_ rfl ?_ ?_).mono ?_
      · exact hF
      · exact hD.below ((Below.refl _ w).alloc (Nat.le_refl _) _)
      · exact hS.below ((Below.refl _ w).alloc (Nat.le_refl _) _)
      · omega
      · rw [ByteArray.size_append]
        omega
      rintro e w2 ⟨got, err, rfl, hb2, HC⟩
      clear hcv
      go_wp2_with fail
      refine HC.out.mono ?_
      rintro e w3 ⟨rfl, rfl⟩
      go_wp2
      go_ret
      exact ⟨rfl, ((Below.refl _ w).alloc (Nat.le_refl _) _).trans (hb2.mono (by simp))⟩
  · rcases hways with ht | ht
    all_goals
      go_enter Ybaf.func3, Ybaf.ntmps3
      go_wp2_with fail
    all_goals
      refine (lit_check F _ _ _ zs true _ 1 _ b s _ ?_ ?_ ?_ rfl ?_ ?_).mono ?_
      · exact hF
      · exact hD.below ((Below.refl _ w).alloc (Nat.le_refl _) _)
      · exact hS.below ((Below.refl _ w).alloc (Nat.le_refl _) _)
      · omega
      · rw [ByteArray.size_append]
        omega
      rintro e w2 ⟨got, err, rfl, hb2, HC⟩
      clear hcv
      go_wp2_with fail
      refine HC.out.mono ?_
      rintro e w3 ⟨rfl, rfl⟩
      go_wp2
      go_ret
      exact ⟨rfl, ((Below.refl _ w).alloc (Nat.le_refl _) _).trans (hb2.mono (by simp))⟩
end Go.Proofs.YbulkguoFmt
