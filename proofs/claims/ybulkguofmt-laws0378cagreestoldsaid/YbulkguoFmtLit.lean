import Derived.Test.YbulkguoFmtScan
import Derived.Deep.RegionWith
namespace Go.Proofs.YbulkguoFmt
open Go.RowKit Go.Extern.Stop Go.Stop Go.Extern
set_option linter.unusedVariables false

theorem wrap_small (i k : Nat) (hi : i ≤ 1100) (hk : k ≤ 1100) : IntKind.i64.wrap ((i : Int) + (k : Int)) = ((i + k : Nat) : Int) := by
  rw [IntKind.wrap_i64]
  omega

/-- 'fail' at every place -/
theorem fail_any (F : Interp) (a : Option Addr) (len cap : Nat) (zs : List Int) (c : Bool) (z : Int) (j : Nat) (wh : ByteArray) (b : Addr) (s : ByteArray) (w : World) (hF : F.answers w.tape) (hD : Dat w a len cap zs) (hz : z = (j : Int))
    (hg : w.cell? ⟨0, 0, none⟩ = some (.iface 57 (.pointer (some b)))) (hs : w.cell? b = some (.string s)) :
    Calls Ybaf.prog 8 #[.agg #[.slice a len cap, .bool c], .int .i64 z, .string wh] w fun e w' =>
      (len ≤ j ∧ ∃ g, e = .returned (.iface 45 (.pointer (some ⟨g, 0, none⟩))) ∧ w'.cell? ⟨g, 0 + 1, none⟩ = some (.iface 57 (.pointer (some b))) ∧ Below w.heap.size w w') ∨
      (j < len ∧ ∃ g, e = .returned (.iface 57 (.pointer (some ⟨g, 0, none⟩))) ∧ (∃ cs, w'.heap[g]? = some (.cells cs 59 (0, 0))) ∧ w.heap.size ≤ g ∧ Below w.heap.size w w') := by
  have hsh := hD.short
  rcases Nat.lt_or_ge j len with hlt | hge
  · rcases hD.lies with h5 | ⟨bd, od, rfl, hbd, hc⟩
    · omega
    · refine (fail_bad F bd od len cap (zs.getD j 0) c z j wh w hF hsh hD.room hD.capm hlt (hc j hlt) hbd hz).mono fun e w' h => Or.inr ⟨hlt, h⟩
  · refine (fail_eof F a len cap c z wh b s w hF (by omega) (by omega) hg hs (World.block_lt_of_cell? _ _ hg) (World.block_lt_of_cell? _ _ hs)).mono fun e w' h => Or.inl ⟨hge, h⟩

/-- how 'literal' ends -/
def LitEnd (zs : List Int) (len i : Nat) (p : ByteArray) (b : Addr) (w : World) (e : Ending) (w' : World) : Prop :=
  ((e = .returned (.tuple #[.int .i64 ((i : Int) + (p.size : Int)), .nilIface]) ∧ Agree zs len i p p.size) ∨
   (∃ j g, e = .returned (.tuple #[.int .i64 0, .iface 45 (.pointer (some ⟨g, 0, none⟩))]) ∧ Parts zs len i p j ∧ len ≤ i + j ∧ w'.cell? ⟨g, 0 + 1, none⟩ = some (.iface 57 (.pointer (some b)))) ∨
   (∃ j g, e = .returned (.tuple #[.int .i64 0, .iface 57 (.pointer (some ⟨g, 0, none⟩))]) ∧ Parts zs len i p j ∧ i + j < len ∧ (∃ cs, w'.heap[g]? = some (.cells cs 59 (0, 0))) ∧ w.heap.size ≤ g)) ∧ Below w.heap.size w w'

set_option maxHeartbeats 1000000 in
theorem lit_any (F : Interp) (a : Option Addr) (len cap : Nat) (zs : List Int) (c : Bool) (z : Int) (i : Nat) (p : ByteArray) (b : Addr) (s : ByteArray) (w : World) (hF : F.answers w.tape) (hD : Dat w a len cap zs) (hz : z = (i : Int)) (hi : i ≤ 1100) (hp : p.size ≤ 1100)
    (hg : w.cell? ⟨0, 0, none⟩ = some (.iface 57 (.pointer (some b)))) (hs : w.cell? b = some (.string s)) :
    Calls Ybaf.prog 5 #[.agg #[.slice a len cap, .bool c], .int .i64 z, .string p] w fun e w' => LitEnd zs len i p b w e w' := by
  subst hz
  go_enter Ybaf.func5, Ybaf.ntmps5
  go_wp2
  go_loopw [11] (fun t wr => ∃ k : Nat, k ≤ p.size ∧ t = .int .i64 k ∧ Below (w.heap.size + 1) (w.alloc (.cells #[.slice a len cap, .bool c] 25)) wr ∧ Hid (Agree zs len i p k)) (fun t _ => p.size - (intOf t).toNat)
  case atStart => exact ⟨0, Nat.zero_le _, rfl, Below.refl _ _, fun _ _ h => absurd h (by omega)⟩
  case round =>
    obtain ⟨k, hk, rfl, hnx, HA⟩ := hrel
    have hbw : Below w.heap.size w wr := ((Below.refl _ w).alloc (Nat.le_refl _) _).trans (hnx.mono (by omega))
    have hDr := hD.below hbw
    have hc0 : wr.cell? ⟨w.heap.size, 0, none⟩ = some (.slice a len cap) := (hnx.cell (by simp)).trans (by simp)
    have hc1 : wr.cell? ⟨w.heap.size, 0 + 1, none⟩ = some (.bool c) := (hnx.cell (by simp)).trans (by simp)
    have hsz : w.heap.size < wr.heap.size := by have := hnx.size; simp at this; omega
    by_cases hkp : k < p.size
    · by_cases heq : byteAt zs len (i + k) = (p[k].toNat : Int)
      · have HE : Hid (byteAt zs len (i + k) = (p[k].toNat : Int)) := heq
        have ht : (byteAt zs len (i + k) != (p[k].toNat : Int)) = false := by simpa using heq
        clear heq
        go_wp2
        go_region_with (go_at_call 7; refine (at_any a len cap zs c _ (i + k) _ ?_ ?_ ?_).mono ?_; exact hDr.below ((Below.refl _ _).drew); exact wrap_small i k hi (by omega); omega; rintro e w' ⟨rfl, rfl⟩)
        all_goals (try go_wp2)
        all_goals
          go_roundw
          case rel => exact ⟨k + 1, by omega, by go_num, (by repeat (first | exact hnx | refine Below.drew ?_ | refine Below.alloc ?_ (by omega) _)), HA.out.step hkp HE.out⟩
          case measure => simp [intOf]; omega
      · have HE : Hid (byteAt zs len (i + k) ≠ (p[k].toNat : Int)) := heq
        have ht : (byteAt zs len (i + k) != (p[k].toNat : Int)) = true := by simpa using heq
        clear heq
        go_wp2
        go_region_with (go_at_call 7; refine (at_any a len cap zs c _ (i + k) _ ?_ ?_ ?_).mono ?_; exact hDr.below ((Below.refl _ _).drew); exact wrap_small i k hi (by omega); omega; rintro e w' ⟨rfl, rfl⟩)
        all_goals (try go_wp2_with fail)
        all_goals
          have hb2 : Below w.heap.size w (wr.alloc (.cells #[.slice a len cap, .bool c] 25)).drew := (hbw.alloc hbw.size _).drew
          refine (fail_any F a len cap zs c _ (i + k) _ b s _ (by rw [hb2.tape]; exact hF) (hD.below hb2) (by omega) (cell_later hb2 hg) (cell_later hb2 hs)).mono ?_
          rintro e w2 (⟨hle, g, rfl, hcell, hb3⟩ | ⟨hlt, g, rfl, hcell, hgs, hb3⟩)
          · go_wp2
            go_ret2
            exact ⟨Or.inr (Or.inl ⟨k, g, rfl, ⟨hkp, HE.out, HA.out⟩, hle, hcell⟩), hb2.trans (hb3.mono hb2.size)⟩
          · go_wp2
            go_ret2
            exact ⟨Or.inr (Or.inr ⟨k, g, rfl, ⟨hkp, HE.out, HA.out⟩, hlt, hcell, Nat.le_trans hb2.size hgs⟩), hb2.trans (hb3.mono hb2.size)⟩
    · go_wp2
      go_ret2
      exact ⟨Or.inl ⟨rfl, fun j hj _ => HA.out j hj (by omega)⟩, hbw⟩
end Go.Proofs.YbulkguoFmt
