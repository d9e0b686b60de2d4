import Derived.Test.YbulkgskLeaf
import Derived.OwnWalk
import Derived.Laws.OwnMore
import Derived.Maps.AppendAt
import Derived.OpenShut
namespace Go.Proofs.Ybulkgsk
open Go.RowKit
set_option linter.unusedVariables false

/-- the letter of a number -/
def letr (x : Int) : Int := if x % 52 < 26 then x % 52 + 97 else x % 52 + 39

theorem Yba.info5 : (Yba.prog.info? 5).map (fun i => (i.zero, i.size, i.bytes)) = some (some (.int .u8 0), 1, 1) := by kernel_rfl

def LET : ByteArray := ⟨#[97, 98, 99, 100, 101, 102, 103, 104, 105, 106, 107, 108, 109, 110, 111, 112, 113, 114, 115, 116, 117, 118, 119, 120, 121, 122, 65, 66, 67, 68, 69, 70, 71, 72, 73, 74, 75, 76, 77, 78, 79, 80, 81, 82, 83, 84, 85, 86, 87, 88, 89, 90]⟩

theorem idx_all : ∀ n : Fin 52, (LET.data[n.val]'(by exact n.isLt)).toNat = (if n.val < 26 then n.val + 97 else n.val + 39) := by decide

theorem run_letter (x : Int) (w : World) (h0 : 0 ≤ x) :
    (Instr.index 9 (.string ⟨#[97, 98, 99, 100, 101, 102, 103, 104, 105, 106, 107, 108, 109, 110, 111, 112, 113, 114, 115, 116, 117, 118, 119, 120, 121, 122, 65, 66, 67, 68, 69, 70, 71, 72, 73, 74, 75, 76, 77, 78, 79, 80, 81, 82, 83, 84, 85, 86, 87, 88, 89, 90]⟩) (.int .i64 (x % 52))).run Yba.prog w = .ok (.int .u8 (letr x)) w := by
  have e := run_index_string (P := Yba.prog) w 9 LET .i64 (x % 52) Yba.underlying9
  have hs : LET.size = 52 := rfl
  have hlt : 0 ≤ x % 52 ∧ x % 52 < (LET.size : Int) := by rw [hs]; omega
  rw [dif_pos hlt] at e
  refine e.trans ?_
  have hi := idx_all ⟨(x % 52).toNat, by omega⟩
  have hv : ((LET[(x % 52).toNat]'(by omega)).toNat : Int) = letr x := by
    have h2 : (LET[(x % 52).toNat]'(by omega)).toNat = _ := hi
    rw [h2]
    unfold letr
    simp only []
    split <;> split <;> omega
  rw [hv]

theorem take_letr (zs : List Int) (k : Nat) (h : k < zs.length) (x : Int) (hx : x = zs.getD k 0) : (zs.take (k + 1)).map letr = (zs.take k).map letr ++ [letr x] := by
  subst hx
  rw [List.take_succ_eq_append_getElem h, List.map_append]
  have e : zs.getD k 0 = zs[k] := by simp [List.getD, h]
  rw [e]; rfl

set_option maxHeartbeats 400000 in
theorem pre_pos (b off len cap : Nat) (zs : List Int) (w : World) (hl : 0 < len) (hm : len ≤ 1024) (hb : b < w.heap.size)
    (hc : ∀ i, i < len → w.cell? ⟨b, off + i, none⟩ = some (.int .u8 (zs.getD i 0))) (hr : ∀ i, 0 ≤ zs.getD i 0 ∧ zs.getD i 0 ≤ 255) (hz : len ≤ zs.length) :
    Calls Yba.prog 5 #[.slice (some ⟨b, off, none⟩) len cap] w fun e w' => e = .returned (.string (strOfNums ((zs.take len).map letr))) ∧ Below w.heap.size w w' := by
  obtain ⟨i0, hi, hz0, hz1, hz2⟩ := info_parts Yba.info5
  go_enter Yba.func5, Yba.ntmps5
  go_wp2_with (at_make; refine wpList_make_own _ rfl _ _ 22 rfl w.heap.size 5 i0 (.int .u8 0) 1 Yba.underlying22 hi hz0 hz1 .i64 .i64 _ len rfl rfl rfl (by rw [hz2]; omega) (by unfold maxLen; omega) (Nat.le_refl _) ?_; intro w0 hown0 hgrow0)
  go_loopw [3, 11] (fun v i wr => ∃ k : Nat, k ≤ len ∧ i = .int .i64 k ∧ v = .slice (some ⟨w.heap.size, 0, none⟩) k len ∧
      wr.ownsRow w.heap.size 5 1 (.slice (some ⟨w.heap.size, 0, none⟩) k len) k (((zs.take k).map letr).map (Value.int .u8)) ∧ Below w.heap.size w wr)
    (fun _ i _ => len - (intOf i).toNat)
  case atStart => exact ⟨0, Nat.zero_le _, rfl, rfl, hown0, (Below.refl _ _).grown hgrow0 (Nat.le_refl _) (fun k h => by cases h)⟩
  case round =>
    obtain ⟨k, hk, rfl, rfl, hown, hnx⟩ := hrel
    by_cases hlt : k < len
    · have hcx : wr.cell? ⟨b, off + k, none⟩ = some (.int .u8 (zs.getD k 0)) := (hnx.cell (by exact hb)).trans (hc k hlt)
      obtain ⟨hx0, hx1⟩ := hr k
      obtain ⟨x, hx⟩ : ∃ x, x = zs.getD k 0 := ⟨_, rfl⟩
      rw [← hx] at hcx hx0 hx1
      have HX : Hid (x = zs.getD k 0) := hx
      clear hx
      have hix : ∀ w, (Instr.index 9 (.string ⟨#[97, 98, 99, 100, 101, 102, 103, 104, 105, 106, 107, 108, 109, 110, 111, 112, 113, 114, 115, 116, 117, 118, 119, 120, 121, 122, 65, 66, 67, 68, 69, 70, 71, 72, 73, 74, 75, 76, 77, 78, 79, 80, 81, 82, 83, 84, 85, 86, 87, 88, 89, 90]⟩) (.int .i64 (x % 52))).run Yba.prog w = .ok (.int .u8 (letr x)) w := fun w => run_letter x w hx0
      go_wp2_with (at_builtin; refine wpList_append_fits _ rfl (.tmp 15) (.tmp 20) 22 rfl w.heap.size 5 i0 1 Yba.underlying22 hi hz1 w.heap.size k len _ rfl (hown.alloc _) ⟨wr.heap.size, 0, none⟩ 1 1 [.int .u8 (letr x)] rfl rfl (cell_one_new _ _ _) (by intro u hu; simp at hu; subst hu; rfl) (by omega) ?_; intro w1 hown1 hgrow1)
      go_roundw
      case rel =>
        refine ⟨k + 1, by omega, by go_num, rfl, ?_, (hnx.alloc hnx.size _).grown hgrow1 (by simp; have := hnx.size; omega) (fun k hk => by cases hk; exact Nat.le_refl _)⟩
        have e : (zs.take (k + 1)).map letr = (zs.take k).map letr ++ [letr x] := by
          exact take_letr zs k (by omega) x HX.out
        rw [e]; simpa using hown1
      case measure => simp [intOf]; omega
    · obtain rfl : k = len := by omega
      have hcv := fun w2 => @run_convert_bytes_arg Yba.prog wr 22 5 Yba.underlying22 Yba.underlying5 w.heap.size 0 k k ((zs.take k).map letr) (by simp; omega) (fun i hik => by
        rw [Nat.zero_add, hown.cellAt i (by omega)]
        have h1 : i < zs.length := by omega
        simp [List.getD, hik, h1]) w2
      have hcv9 := hcv 9 Yba.underlying9
      clear hcv hown
      go_wp2
      go_ret
      exact ⟨by rw [List.map_take]; rfl, hnx⟩

theorem pre_zero (a : Option Addr) (cap : Nat) (w : World) :
    Calls Yba.prog 5 #[.slice a 0 cap] w fun e w' => e = .returned (.string (strOfNums [])) ∧ Below w.heap.size w w' := by
  obtain ⟨i0, hi, hz0, hz1, hz2⟩ := info_parts Yba.info5
  go_enter Yba.func5, Yba.ntmps5
  go_wp2_with (at_make; refine wpList_make_own _ rfl _ _ 22 rfl w.heap.size 5 i0 (.int .u8 0) 1 Yba.underlying22 hi hz0 hz1 .i64 .i64 _ 0 rfl rfl rfl (by rw [hz2]; omega) (by unfold maxLen; omega) (Nat.le_refl _) ?_; intro w0 hown0 hgrow0)
  have hcv := @run_convert_bytes_arg Yba.prog w0 22 5 Yba.underlying22 Yba.underlying5 w.heap.size 0 0 0 [] rfl (fun i hik => absurd hik (by omega)) 9 Yba.underlying9
  refine wp_loop_rounds 1 ?_
  rw [rounds_succ]
  go_wp2
  go_ret
  exact ⟨rfl, (Below.refl _ _).grown hgrow0 (Nat.le_refl _) (fun k h => by cases h)⟩

/-- what the walks are told of the slice of bytes that came in -/
def IsRow (k : IntKind) (w : World) (a : Option Addr) (len cap : Nat) (zs : List Int) : Prop :=
  (a = none ∧ len = 0 ∧ cap = 0 ∧ zs = []) ∨
  ∃ x, a = some x ∧ len ≤ cap ∧ cap ≤ maxLen ∧ zs.length = cap ∧ (∀ i, i < zs.length → w.cell? (x.add i) = some (.int k (zs.getD i 0))) ∧ ∀ n ∈ zs, (Lit.int k n).wf = true

theorem bounds_at (zs : List Int) (h : ∀ n ∈ zs, (Lit.int .u8 n).wf = true) (i : Nat) : 0 ≤ zs.getD i 0 ∧ zs.getD i 0 ≤ 255 := by
  by_cases hi : i < zs.length
  · have e : zs.getD i 0 = zs[i] := by simp [List.getD, hi]
    have := bounds_u8 (h _ (List.getElem_mem hi))
    rw [e]; omega
  · have e : zs.getD i 0 = 0 := by simp [List.getD, hi]
    rw [e]; omega

theorem lt_of_cell {w : World} {a : Addr} {v : Value} (h : w.cell? a = some v) : a.block < w.heap.size := by
  rcases Nat.lt_or_ge a.block w.heap.size with h1 | h1
  · exact h1
  · have : w.heap[a.block]? = none := by simp [h1]
    simp [World.cell?, this] at h

theorem pre_any (a : Option Addr) (len cap : Nat) (zs : List Int) (w : World) (hm : len ≤ 1024) (hrow : IsRow .u8 w a len cap zs) :
    Calls Yba.prog 5 #[.slice a len cap] w fun e w' => e = .returned (.string (strOfNums ((zs.take len).map letr))) ∧ Below w.heap.size w w' := by
  by_cases hl : len = 0
  · subst hl
    exact pre_zero a cap w
  · rcases hrow with ⟨_, h, _⟩ | ⟨x, rfl, hlc, _, hz, hc, hwf⟩
    · exact absurd h hl
    · obtain ⟨b, off, rfl, hc'⟩ := ints_at hc (by omega)
      exact pre_pos b off len cap zs w (by omega) hm (lt_of_cell (hc' 0 (by omega))) (fun i hi => hc' i (by omega)) (bounds_at zs hwf) (by omega)
end Go.Proofs.Ybulkgsk
