import Derived.Test.YbulkguoFmtCheck
namespace Go.Proofs.YbulkguoFmt
open Go.RowKit Go.Extern.Stop Go.Stop Go.Extern
set_option linter.unusedVariables false

set_option maxHeartbeats 1000000 in
theorem key_big (a : Option Addr) (len cap : Nat) (st sel : Int) (w : World) (hlen : len ≤ 9223372036854775807) (hbig : 1024 < len) :
    Calls Ybaf.prog 4 #[.slice a len cap, .int .u16 st, .int .u8 sel] w fun e w' => e = .returned (.bool true) ∧ Below w.heap.size w w' := by
  go_enter Ybaf.func4, Ybaf.ntmps4
  go_wp2
  go_ret
  exact ⟨rfl, Below.refl _ _⟩

set_option maxHeartbeats 1000000 in
theorem key_small (F : Interp) (a : Option Addr) (len cap : Nat) (zs : List Int) (st sel : Int) (b : Addr) (s : ByteArray) (w : World) (hF : F.answers w.tape) (hD : Dat w a len cap zs) (hS : Sent w b s)
    (hs0 : 0 ≤ st) (hs1 : st ≤ 65535) (hl0 : 0 ≤ sel) (hl1 : sel ≤ 255) :
    Calls Ybaf.prog 4 #[.slice a len cap, .int .u16 st, .int .u8 sel] w fun e w' => e = .returned (.bool true) ∧ Below w.heap.size w w' := by
  have hsh := hD.short
  go_enter Ybaf.func4, Ybaf.ntmps4
  go_wp2_with fail
  all_goals
    have hb1 : Below w.heap.size w (w.alloc (.cells #[.slice a len cap, .bool false] 25)) := (Below.refl _ w).alloc (Nat.le_refl _) _
    obtain ⟨i, hi⟩ : ∃ i : Nat, st % ((len : Int) + 2) = (i : Int) := ⟨(st % ((len : Int) + 2)).toNat, by have := Int.emod_nonneg st (show ((len : Int) + 2) ≠ 0 from by omega); omega⟩
    have hi2 : i ≤ 1100 := by have := Int.emod_lt_of_pos st (show 0 < ((len : Int) + 2) from by omega); omega
    refine (lit_check F a len cap zs false _ i _ b s _ (by rw [hb1.tape]; exact hF) (hD.below hb1) (hS.below hb1) hi hi2 (by decide)).mono ?_
    rintro e w2 ⟨got, err, rfl, hb2, HC⟩
    clear hi
    go_wp2_with fail
    refine HC.out.mono ?_
    rintro e w3 ⟨rfl, rfl⟩
    go_wp2
    go_ret
    exact ⟨rfl, hb1.trans (hb2.mono hb1.size)⟩
end Go.Proofs.YbulkguoFmt
