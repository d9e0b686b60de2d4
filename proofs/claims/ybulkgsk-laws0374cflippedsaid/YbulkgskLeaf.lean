import Derived.Test.YbulkgskRows
import Derived.WalkKit
import Derived.ProofKit
import Derived.WalkSpells
import Derived.Deep.QuietTactic
import Derived.BigQuiet
import Derived.Below
import Derived.Laws.BytesArg
namespace Go.Proofs.Ybulkgsk
open Go.RowKit
set_option linter.unusedVariables false

def lowI (c : Int) : Int := if 65 ≤ c ∧ c ≤ 90 then c + 32 else c

theorem low_any (c : Int) (w : World) (h0 : 0 ≤ c) (h1 : c ≤ 255) :
    Calls Yba.prog 6 #[.int .u8 c] w fun e w' => e = .returned (.int .u8 (lowI c)) ∧ w' = w := by
  by_cases ha : 65 ≤ c
  · by_cases hb : c ≤ 90
    · have e : Hid (lowI c = c + 32) := by unfold Hid lowI; rw [if_pos ⟨ha, hb⟩]
      go_enter Yba.func6, Yba.ntmps6
      go_wp2
      go_ret
      exact ⟨by rw [e.out]; rfl, rfl⟩
    · have e : Hid (lowI c = c) := by unfold Hid lowI; rw [if_neg (by omega)]
      go_enter Yba.func6, Yba.ntmps6
      go_wp2
      go_ret
      exact ⟨by rw [e.out]; rfl, rfl⟩
  · have e : Hid (lowI c = c) := by unfold Hid lowI; rw [if_neg (by omega)]
    go_enter Yba.func6, Yba.ntmps6
    go_wp2
    go_ret
    exact ⟨by rw [e.out]; rfl, rfl⟩

def swpI (c : Int) : Int := if 65 ≤ c ∧ c ≤ 90 then c + 32 else if 97 ≤ c ∧ c ≤ 122 then c - 32 else c

theorem swp_any (c : Int) (w : World) (h : (65 ≤ c ∧ c ≤ 90) ∨ (97 ≤ c ∧ c ≤ 122)) :
    Calls Yba.prog 8 #[.int .u8 c] w fun e w' => e = .returned (.int .u8 (swpI c)) ∧ w' = w := by
  rcases h with ⟨ha, hb⟩ | ⟨ha, hb⟩
  · have e : Hid (swpI c = c + 32) := by unfold Hid swpI; rw [if_pos ⟨ha, hb⟩]
    go_enter Yba.func8, Yba.ntmps8
    go_wp2
    go_ret
    exact ⟨by rw [e.out]; rfl, rfl⟩
  · have e : Hid (swpI c = c - 32) := by unfold Hid swpI; rw [if_neg (by omega), if_pos ⟨ha, hb⟩]
    go_enter Yba.func8, Yba.ntmps8
    go_wp2
    go_ret
    exact ⟨by rw [e.out]; rfl, rfl⟩

/-- what 'hasPrefixFold' asks of two strings -/
def FoldP (s p : ByteArray) : Prop :=
  p.size ≤ s.size ∧ ∀ i (hs : i < s.size) (hp : i < p.size), bits .or .u8 (s[i].toNat : Int) 32 = bits .or .u8 (p[i].toNat : Int) 32

theorem fold_any (s p : ByteArray) (w : World) (hs : s.size ≤ maxLen) (hp : p.size ≤ maxLen) :
    Calls Yba.prog 7 #[.string s, .string p] w fun e w' => (∃ b : Bool, e = .returned (.bool b) ∧ (b = true ↔ FoldP s p)) ∧ ∃ n, w' = w.drewN n := by
  unfold maxLen at hs hp
  by_cases hlt : s.size < p.size
  · go_enter Yba.func7, Yba.ntmps7
    go_wp2
    go_ret
    exact ⟨⟨false, rfl, by simp, fun h => absurd h.1 (by omega)⟩, 0, rfl⟩
  · go_enter Yba.func7, Yba.ntmps7
    go_wp2
    go_loopw [5] (fun i wr => ∃ k n : Nat, k ≤ p.size ∧ i = .int .i64 k ∧ wr = w.drewN n ∧ Hid (∀ i (hs : i < s.size) (hp : i < p.size), i < k → bits .or .u8 (s[i].toNat : Int) 32 = bits .or .u8 (p[i].toNat : Int) 32)) (fun i _ => p.size - (intOf i).toNat)
    case atStart => exact ⟨0, 0, Nat.zero_le _, rfl, rfl, fun _ _ _ h => absurd h (by omega)⟩
    case round =>
      obtain ⟨k, n, hk, rfl, rfl, HH⟩ := hrel
      by_cases hkp : k < p.size
      · have hks : k < s.size := by omega
        go_wp2
        go_quiet (fail)
        go_wp2
        · have hne : (bits BinOp.or IntKind.u8 (↑s[k].toNat) 32 != bits BinOp.or IntKind.u8 (↑p[k].toNat) 32) = true := by assumption
          go_ret
          exact ⟨⟨false, rfl, by simp, fun h => absurd (h.2 k hks hkp) (by simpa using hne)⟩, n + nq, by simp⟩
        · have heq : (bits BinOp.or IntKind.u8 (↑s[k].toNat) 32 != bits BinOp.or IntKind.u8 (↑p[k].toNat) 32) = false := by assumption
          go_roundw
          case rel =>
            refine ⟨k + 1, _, by omega, by go_num, rfl, fun i hi1 hi2 hi3 => ?_⟩
            rcases Nat.lt_or_ge i k with h | h
            · exact HH.out i hi1 hi2 h
            · obtain rfl : i = k := by omega
              simpa using heq
          case measure => simp [intOf]; omega
      · go_wp2
        go_ret
        exact ⟨⟨true, rfl, by simp only [true_iff]; exact ⟨by omega, fun i h1 h2 => HH.out i h1 h2 (by omega)⟩⟩, n, rfl⟩
end Go.Proofs.Ybulkgsk
