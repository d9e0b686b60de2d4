import Derived.Test.YbulkgvqByte
namespace Go.Proofs.Ybulkgvq
open Go.RowKit
set_option linter.unusedVariables false

/-- a hex digit's byte and its value -/
def IsDig (c k : Int) : Prop := (48 ≤ c ∧ c ≤ 57 ∧ k = c - 48) ∨ (65 ≤ c ∧ c ≤ 70 ∧ k = c - 55) ∨ (97 ≤ c ∧ c ≤ 102 ∧ k = c - 87)

theorem ret_int {k : IntKind} {a b : Int} (h : a = b) : Ending.returned (.int k a) = .returned (.int k b) := by rw [h]

theorem dig_ok (c k : Int) (w : World) (h : IsDig c k) : Calls Yba.prog 7 #[.int .u8 c] w fun e w' => e = .returned (.int .u8 k) ∧ w' = w := by
  unfold IsDig at h
  rcases h with ⟨h, h', hk⟩ | ⟨h, h', hk⟩ | ⟨h, h', hk⟩
  all_goals
    have HK : Hid (k = _) := hk
    clear hk
    go_enter Yba.func7, Yba.ntmps7
    go_wp2
    go_ret
    exact ⟨ret_int (by have := HK.out; omega), rfl⟩

def tabU : ByteArray := ⟨#[48, 49, 50, 51, 52, 53, 54, 55, 56, 57, 65, 66, 67, 68, 69, 70]⟩
def tabL : ByteArray := ⟨#[48, 49, 50, 51, 52, 53, 54, 55, 56, 57, 97, 98, 99, 100, 101, 102]⟩

theorem tabU_all : ∀ n : Fin 16, (tabU.data[n.val]'(by exact n.isLt)).toNat = (if n.val < 10 then n.val + 48 else n.val + 55) := by decide
theorem tabL_all : ∀ n : Fin 16, (tabL.data[n.val]'(by exact n.isLt)).toNat = (if n.val < 10 then n.val + 48 else n.val + 87) := by decide

/-- a table whose byte at k is the digit k -/
def IsTab (T : ByteArray) : Prop := ∀ k : Nat, k < 16 → ∃ c : Int, 0 ≤ c ∧ c ≤ 255 ∧ (∀ w, (Instr.index 9 (.string T) (.int .i64 (k : Int))).run Yba.prog w = .ok (.int .u8 c) w) ∧ IsDig c k

theorem isTab_of (T : ByteArray) (hs : T.size = 16) (h : ∀ k : Nat, (hk : k < T.size) → IsDig (T[k].toNat : Int) k) : IsTab T := by
  intro k hk
  have hk' : k < T.size := by omega
  refine ⟨(T[k].toNat : Int), by omega, by have := T[k].toNat_lt; omega, fun w => ?_, h k hk'⟩
  have e := run_index_string (P := Yba.prog) w 9 T .i64 (k : Int) Yba.underlying9
  rw [dif_pos ⟨by omega, by omega⟩] at e
  exact e

theorem tabU_is : IsTab tabU := isTab_of tabU rfl fun k hk => by
  have hk' : k < 16 := hk
  have h := tabU_all ⟨k, hk'⟩
  have h2 : (tabU[k]'hk).toNat = (if k < 10 then k + 48 else k + 55) := h
  unfold IsDig
  rw [h2]
  split <;> omega

theorem tabL_is : IsTab tabL := isTab_of tabL rfl fun k hk => by
  have hk' : k < 16 := hk
  have h := tabL_all ⟨k, hk'⟩
  have h2 : (tabL[k]'hk).toNat = (if k < 10 then k + 48 else k + 87) := h
  unfold IsDig
  rw [h2]
  split <;> omega

theorem tab_any (u : Bool) (w : World) : Calls Yba.prog 6 #[.bool u] w fun e w' => ∃ T : ByteArray, e = .returned (.string T) ∧ Hid (IsTab T) ∧ w' = w := by
  cases u
  · go_enter Yba.func6, Yba.ntmps6
    go_wp2
    go_ret
    exact ⟨tabL, rfl, tabL_is, rfl⟩
  · go_enter Yba.func6, Yba.ntmps6
    go_wp2
    go_ret
    exact ⟨tabU, rfl, tabU_is, rfl⟩

set_option maxHeartbeats 1000000 in
theorem hex_walk (u : Bool) (kk : Int) (w : World) (h0 : 0 ≤ kk) (h1 : kk ≤ 255) :
    Calls Yba.prog 3 #[.bool u, .int .u8 kk] w fun e w' => e = .returned (.bool true) ∧ w' = w := by
  go_enter Yba.func3, Yba.ntmps3
  go_wp2_with (go_at_call 6; refine (tab_any u _).mono ?_; rintro e w' ⟨T, rfl, HT, rfl⟩)
  go_loop [6] (fun t => ∃ k : Nat, k ≤ 16 ∧ t = .int .i64 k) (fun t => 16 - (intOf t).toNat)
  case atStart => exact ⟨0, by omega, rfl⟩
  case round =>
    obtain ⟨k, hk, rfl⟩ := hrel
    by_cases hlt : k < 16
    · obtain ⟨c, hc0, hc1, hix, hd⟩ := HT.out k hlt
      have HD : Hid (IsDig c k) := hd
      clear hd
      go_wp2_with (go_at_call 7; refine (dig_ok c k _ HD.out).mono ?_; rintro e w' ⟨rfl, rfl⟩)
      go_round
      case rel => exact ⟨k + 1, by omega, by go_num⟩
      case measure => simp [intOf]; omega
    · obtain ⟨j, hJ⟩ : ∃ j : Nat, kk % 16 = (j : Int) := ⟨(kk % 16).toNat, by omega⟩
      have hj : j < 16 := by omega
      obtain ⟨c, hc0, hc1, hix, hd⟩ := HT.out j hj
      have HD : Hid (IsDig c j) := hd
      clear hd
      go_wp2_with (go_at_call 7; refine (dig_ok c j _ HD.out).mono ?_; rintro e w' ⟨rfl, rfl⟩)
      go_ret
      exact ⟨rfl, rfl⟩
end Go.Proofs.Ybulkgvq
