import Derived.Test.YbulkguoFmtCheck
import Derived.Laws.BytesArg
namespace Go.Proofs.YbulkguoFmt
open Go.RowKit Go.Extern.Stop Go.Stop Go.Extern
set_option linter.unusedVariables false

set_option maxHeartbeats 1000000 in
theorem agr_big (a : Option Addr) (len cap : Nat) (st tk : Int) (x : ByteArray) (w : World) (hlen : len ≤ 9223372036854775807) (hx : x.size ≤ 9223372036854775807) (hbig : 1024 < len ∨ 1024 < x.size) :
    Calls Ybaf.prog 3 #[.slice a len cap, .int .u16 st, .int .u8 tk, .string x] w fun e w' => e = .returned (.bool true) ∧ Below w.heap.size w w' := by
  by_cases hl : 1024 < len
  · go_enter Ybaf.func3, Ybaf.ntmps3
    go_wp2
    go_ret
    exact ⟨rfl, Below.refl _ _⟩
  · have hx2 : 1024 < x.size := by omega
    clear hbig
    go_enter Ybaf.func3, Ybaf.ntmps3
    go_wp2
    go_ret
    exact ⟨rfl, Below.refl _ _⟩

theorem conv_at (b0 o m c : Nat) (V : Nat → Int) (w : World) (h : ∀ k, k < m → w.cell? ⟨b0, o + k, none⟩ = some (.int .u8 (V k))) :
    ∃ q : ByteArray, q.size = m ∧ (convert 22 9 (.slice (some ⟨b0, o, none⟩) m c)).run Ybaf.prog w = .ok (.string q) w := by
  refine ⟨strOfNums ((List.range m).map V), by simp [strOfNums_size], ?_⟩
  refine run_convert_bytes_arg w 22 5 Ybaf.underlying22 Ybaf.underlying5 b0 o m c _ (by simp) (fun k hk => ?_) 9 Ybaf.underlying9
  rw [h k hk]
  simp [List.getD, hk]

set_option maxHeartbeats 2000000 in
theorem agr_some (F : Interp) (b0 off len cap : Nat) (zs : List Int) (st tk : Int) (x : ByteArray) (b : Addr) (s : ByteArray) (w : World) (hF : F.answers w.tape) (hD : Dat w (some ⟨b0, off, none⟩) len cap zs) (hS : Sent w b s)
    (hs0 : 0 ≤ st) (hs1 : st ≤ 65535) (hl0 : 0 ≤ tk) (hl1 : tk ≤ 255) (hx : x.size ≤ 1024) :
    Calls Ybaf.prog 3 #[.slice (some ⟨b0, off, none⟩) len cap, .int .u16 st, .int .u8 tk, .string x] w fun e w' => e = .returned (.bool true) ∧ Below w.heap.size w w' := by
  have hsh := hD.short
  have hrm := hD.room
  have hcm := hD.capm
  obtain ⟨i, hI⟩ : ∃ i : Nat, st % ((len : Int) + 2) = (i : Int) := ⟨(st % ((len : Int) + 2)).toNat, by have := Int.emod_nonneg st (show ((len : Int) + 2) ≠ 0 from by omega); omega⟩
  have hi2 : i ≤ len + 1 := by have := Int.emod_lt_of_pos st (show 0 < ((len : Int) + 2) from by omega); omega
  obtain ⟨t, hT⟩ : ∃ t : Nat, tk % 8 = (t : Int) := ⟨(tk % 8).toNat, by omega⟩
  have ht : t ≤ 7 := by omega
  obtain ⟨q, hq, hways⟩ : ∃ q : ByteArray, q.size ≤ 7 ∧
      ((len < i ∧ cap = len ∧ (convert 22 9 (.slice (some ⟨b0, off, none⟩) 0 0)).run Ybaf.prog w = .ok (.string q) w) ∨
       (len < i ∧ ¬ cap = len ∧ (convert 22 9 (.slice (some ⟨b0, off + len, none⟩) 0 (cap - len))).run Ybaf.prog w = .ok (.string q) w) ∨
       (i + t ≤ len ∧ cap = i ∧ (convert 22 9 (.slice (some ⟨b0, off, none⟩) t 0)).run Ybaf.prog w = .ok (.string q) w) ∨
       (i + t ≤ len ∧ ¬ cap = i ∧ (convert 22 9 (.slice (some ⟨b0, off + i, none⟩) t (cap - i))).run Ybaf.prog w = .ok (.string q) w) ∨
       ((i ≤ len ∧ len < i + t) ∧ cap = i ∧ (convert 22 9 (.slice (some ⟨b0, off, none⟩) 0 0)).run Ybaf.prog w = .ok (.string q) w) ∨
       ((i ≤ len ∧ len < i + t) ∧ ¬ cap = i ∧ (convert 22 9 (.slice (some ⟨b0, off + i, none⟩) (len - i) (cap - i))).run Ybaf.prog w = .ok (.string q) w)) := by
    have none_at := fun (o c : Nat) => conv_at b0 o 0 c (fun _ => 0) w (fun k h => absurd h (by omega))
    have some_at := fun (m c : Nat) (h : i + m ≤ len) (h7 : m ≤ 7) => conv_at b0 (off + i) m c (fun k => zs.getD (i + k) 0) w (fun k hk => by
      rcases hD.lies with h0 | ⟨b', o', he, _, hc⟩
      · omega
      · have e1 : b' = b0 := by cases he; rfl
        have e2 : o' = off := by cases he; rfl
        subst e1; subst e2
        rw [Nat.add_assoc]
        exact hc (i + k) (by omega))
    by_cases c1 : len < i
    · by_cases c2 : cap = len
      · obtain ⟨q, hq, hcv⟩ := none_at off 0
        exact ⟨q, by omega, Or.inl ⟨c1, c2, hcv⟩⟩
      · obtain ⟨q, hq, hcv⟩ := none_at (off + len) (cap - len)
        exact ⟨q, by omega, Or.inr (Or.inl ⟨c1, c2, hcv⟩)⟩
    · by_cases c3 : i + t ≤ len
      · by_cases c2 : cap = i
        · obtain ⟨q, hq, hcv⟩ := none_at off 0
          have h0 : t = 0 := by omega
          exact ⟨q, by omega, Or.inr (Or.inr (Or.inl ⟨c3, c2, by rw [h0]; exact hcv⟩))⟩
        · obtain ⟨q, hq, hcv⟩ := some_at t (cap - i) c3 ht
          exact ⟨q, by omega, Or.inr (Or.inr (Or.inr (Or.inl ⟨c3, c2, hcv⟩)))⟩
      · by_cases c2 : cap = i
        · obtain ⟨q, hq, hcv⟩ := none_at off 0
          exact ⟨q, by omega, Or.inr (Or.inr (Or.inr (Or.inr (Or.inl ⟨⟨by omega, by omega⟩, c2, hcv⟩))))⟩
        · obtain ⟨q, hq, hcv⟩ := some_at (len - i) (cap - i) (by omega) (by omega)
          exact ⟨q, by omega, Or.inr (Or.inr (Or.inr (Or.inr (Or.inr ⟨⟨by omega, by omega⟩, c2, hcv⟩))))⟩
  have hi3 : i ≤ 1100 := by omega
  rcases hways with ⟨c1, c2, hcv⟩ | ⟨c1, c2, hcv⟩ | ⟨c1, c2, hcv⟩ | ⟨c1, c2, hcv⟩ | ⟨⟨c1, c3⟩, c2, hcv⟩ | ⟨⟨c1, c3⟩, c2, hcv⟩
  all_goals first | subst c2 | skip
  all_goals
    go_enter Ybaf.func3, Ybaf.ntmps3
    go_wp2_with fail
  all_goals
    refine (lit_check F _ _ _ zs true _ _ _ b s _ ?_ ?_ ?_ rfl ?_ ?_).mono ?_
    · exact hF
    · exact hD.below ((Below.refl _ w).alloc (Nat.le_refl _) _)
    · exact hS.below ((Below.refl _ w).alloc (Nat.le_refl _) _)
    · omega
    · rw [ByteArray.size_append]
      omega
    rintro e w2 ⟨got, err, rfl, hb2, HC⟩
    clear hcv
    go_wp2_with fail
    refine HC.out.mono ?_
    rintro e w3 ⟨rfl, rfl⟩
    go_wp2
    go_ret
    exact ⟨rfl, ((Below.refl _ w).alloc (Nat.le_refl _) _).trans (hb2.mono (by simp))⟩
end Go.Proofs.YbulkguoFmt
