import Derived.Test.YbulkgskPlain
import Derived.WalkSmall
namespace Go.Proofs.Ybulkgsk
open Go.RowKit
set_option linter.unusedVariables false

theorem low_has (c : Int) (w : World) (h0 : 0 ≤ c) (h1 : c ≤ 255) (hl : isLet c) :
    Calls Yba.prog 6 #[.int .u8 c] w fun e w' => ∃ l : Int, e = .returned (.int .u8 l) ∧ 97 ≤ l ∧ l ≤ 122 ∧ Hid (l = lowI c) ∧ w' = w :=
  (low_any c w h0 h1).mono fun e w' ⟨he, hw⟩ => ⟨_, he, (low_let c hl).1, (low_let c hl).2, rfl, hw⟩

def Inv (s p : ByteArray) (k : Nat) (b : Bool) : Prop :=
  (b = true → p.size ≤ s.size ∧ ∀ i (hs : i < s.size) (hp : i < p.size), i < k → bits .or .u8 (s[i].toNat : Int) 32 = bits .or .u8 (p[i].toNat : Int) 32) ∧ (b = false → ¬ FoldP s p)

theorem inv_zero (s p : ByteArray) : Inv s p 0 (decide (p.size ≤ s.size)) :=
  ⟨fun h => ⟨by simpa using h, fun _ _ _ h => absurd h (by omega)⟩, fun h hf => by have := hf.1; simp at h; omega⟩

theorem inv_yes {s p : ByteArray} {k : Nat} (h : Inv s p k true) (hl : Lets p) (hs : k < s.size) (hp : k < p.size) (hc : (s[k].toNat : Int) = lowI p[k].toNat ∨ (s[k].toNat : Int) = lowI p[k].toNat - 32) : Inv s p (k + 1) true := by
  refine ⟨fun _ => ⟨(h.1 rfl).1, fun i h1 h2 h3 => ?_⟩, fun h => by cases h⟩
  rcases Nat.lt_or_ge i k with h4 | h4
  · exact (h.1 rfl).2 i h1 h2 h4
  · obtain rfl : i = k := by omega
    exact (agree _ _ (byte_le s i hs).1 (byte_le s i hs).2 (hl i hp)).2 hc

theorem inv_no {s p : ByteArray} {k : Nat} (hl : Lets p) (hs : k < s.size) (hp : k < p.size) (hc : ¬ ((s[k].toNat : Int) = lowI p[k].toNat ∨ (s[k].toNat : Int) = lowI p[k].toNat - 32)) : Inv s p (k + 1) false :=
  ⟨fun h => (by cases h), fun _ hf => hc ((agree _ _ (byte_le s k hs).1 (byte_le s k hs).2 (hl k hp)).1 (hf.2 k hs hp))⟩

theorem inv_end {s p : ByteArray} {k : Nat} {b b' : Bool} (h : Inv s p k b) (hk : b = true → p.size ≤ k) (hb : b' = true ↔ FoldP s p) : (b' == b) = true := by
  cases b
  · have := h.2 rfl
    cases b'
    · rfl
    · exact absurd (hb.1 rfl) this
  · have h1 := h.1 rfl
    have : b' = true := hb.2 ⟨h1.1, fun i hs hp => h1.2 i hs hp (by have := hk rfl; omega)⟩
    rw [this]; rfl

theorem ret_bool {a : Bool} (h : a = true) : Ending.returned (.bool a) = .returned (.bool true) := by rw [h]

set_option maxHeartbeats 1000000 in
theorem model_walk (s : ByteArray) (a1 : Option Addr) (len1 cap1 : Nat) (z1 : List Int) (w : World) (hs : s.size ≤ maxLen) (hrow : IsRow .u8 w a1 len1 cap1 z1) :
    Calls Yba.prog 3 #[.string s, .slice a1 len1 cap1] w fun e w' => e = .returned (.bool true) ∧ Below w.heap.size w w' := by
  have hs0 := hs
  unfold maxLen at hs
  have hlen : len1 ≤ 9223372036854775807 := by
    rcases hrow with ⟨_, h, _⟩ | ⟨x, _, h1, h2, _⟩
    · omega
    · unfold maxLen at h2; omega
  by_cases hbig : 1024 < len1
  · go_enter Yba.func3, Yba.ntmps3
    go_wp2
    go_ret
    exact ⟨rfl, Below.refl _ _⟩
  · go_enter Yba.func3, Yba.ntmps3
    go_wp2_with (go_at_call 5; refine (pre_let a1 len1 cap1 z1 w (by omega) hrow).mono ?_; rintro e w1 ⟨p, rfl, hp, HL, hb⟩)
    go_loop [6, 7] (fun b i => ∃ (k : Nat) (bb : Bool), k ≤ p.size ∧ i = .int .i64 k ∧ b = .bool bb ∧ Hid (Inv s p k bb)) (fun _ i => p.size - (intOf i).toNat)
    case atStart => exact ⟨0, _, Nat.zero_le _, rfl, rfl, inv_zero s p⟩
    case round =>
      obtain ⟨k, bb, hk, rfl, rfl, HI⟩ := hrel
      cases bb
      · go_wp2_with (go_at_call 7; refine (fold_any s p _ hs0 (by unfold maxLen; omega)).mono ?_; rintro e w2 ⟨⟨b2, rfl, hb2⟩, n, rfl⟩)
        go_ret
        exact ⟨ret_bool (by simpa using inv_end HI.out (by simp) hb2), below_drewN hb n⟩
      · by_cases hkp : k < p.size
        · have hks : k < s.size := by have := (HI.out.1 rfl).1; omega
          go_wp2_with (go_at_call 6; refine (low_has _ _ (byte_le p k hkp).1 (byte_le p k hkp).2 (HL.out k hkp)).mono ?_; rintro e w2 ⟨l, rfl, hl1, hl2, Hl, rfl⟩)
          · have h1 : (s[k].toNat : Int) = l := by assumption
            go_round
            case rel => exact ⟨k + 1, true, by omega, by go_num, rfl, inv_yes HI.out HL.out hks hkp (Or.inl (by rw [← Hl.out]; exact h1))⟩
            case measure => simp [intOf]; omega
          · have h2 : (↑s[k].toNat != l) = true ∧ (↑s[k].toNat != l - 32) = true := by assumption
            go_round
            case rel =>
              refine ⟨k + 1, false, by omega, by go_num, rfl, inv_no HL.out hks hkp ?_⟩
              rw [← Hl.out]
              have h3 := h2.1
              have h4 := h2.2
              simp at h3 h4
              omega
            case measure => simp [intOf]; omega
          · have h2 : (↑s[k].toNat != l) = false ∨ (↑s[k].toNat != l - 32) = false := by assumption
            go_round
            case rel =>
              refine ⟨k + 1, true, by omega, by go_num, rfl, inv_yes HI.out HL.out hks hkp ?_⟩
              rw [← Hl.out]
              simpa using h2
            case measure => simp [intOf]; omega
        · go_wp2_with (go_at_call 7; refine (fold_any s p _ hs0 (by unfold maxLen; omega)).mono ?_; rintro e w2 ⟨⟨b2, rfl, hb2⟩, n, rfl⟩)
          go_ret
          exact ⟨ret_bool (by simpa using inv_end HI.out (by omega) hb2), below_drewN hb n⟩
end Go.Proofs.Ybulkgsk
