import Derived.Test.YbulkguoFmtFail
namespace Go.Proofs.YbulkguoFmt
open Go.RowKit
set_option linter.unusedVariables false

/-- the byte at a place, 0 past the end -/
def byteAt (zs : List Int) (len k : Nat) : Int := if k < len then zs.getD k 0 else 0

/-- what the walks are told of the slice of bytes that came in -/
structure Dat (w : World) (a : Option Addr) (len cap : Nat) (zs : List Int) : Prop where
  short : len ≤ 1024
  room : len ≤ cap
  capm : cap ≤ 9223372036854775807
  byte : ∀ k, 0 ≤ zs.getD k 0 ∧ zs.getD k 0 ≤ 255
  lies : len = 0 ∨ ∃ b off, a = some ⟨b, off, none⟩ ∧ b < w.heap.size ∧ ∀ k, k < len → w.cell? ⟨b, off + k, none⟩ = some (.int .u8 (zs.getD k 0))

theorem Dat.below {w w' : World} {a : Option Addr} {len cap : Nat} {zs : List Int} (h : Dat w a len cap zs) (hb : Below w.heap.size w w') : Dat w' a len cap zs := by
  refine ⟨h.short, h.room, h.capm, h.byte, ?_⟩
  rcases h.lies with h0 | ⟨b, off, ha, hlt, hc⟩
  · exact Or.inl h0
  · exact Or.inr ⟨b, off, ha, Nat.lt_of_lt_of_le hlt hb.size, fun k hk => (hb.cell (p := ⟨b, off + k, none⟩) hlt).trans (hc k hk)⟩

/-- the word stands at the place, up to k -/
def Agree (zs : List Int) (len i : Nat) (p : ByteArray) (k : Nat) : Prop := ∀ j (h : j < p.size), j < k → byteAt zs len (i + j) = (p[j].toNat : Int)

/-- the first place where it does not -/
def Parts (zs : List Int) (len i : Nat) (p : ByteArray) (j : Nat) : Prop := ∃ h : j < p.size, byteAt zs len (i + j) ≠ (p[j].toNat : Int) ∧ Agree zs len i p j

theorem byte_in {zs : List Int} {len k : Nat} (h : k < len) : byteAt zs len k = zs.getD k 0 := if_pos h
theorem byte_out {zs : List Int} {len k : Nat} (h : ¬ k < len) : byteAt zs len k = 0 := if_neg h

theorem Agree.step {zs : List Int} {len i : Nat} {p : ByteArray} {k : Nat} (h : Agree zs len i p k) (hk : k < p.size) (he : byteAt zs len (i + k) = (p[k].toNat : Int)) : Agree zs len i p (k + 1) := by
  intro j hj hjk
  rcases Nat.lt_or_ge j k with h1 | h1
  · exact h j hj h1
  · obtain rfl : j = k := by omega
    exact he

theorem Parts.unique {zs : List Int} {len i : Nat} {p : ByteArray} {j j' : Nat} (h : Parts zs len i p j) (h' : Parts zs len i p j') : j = j' := by
  obtain ⟨h1, h2, h3⟩ := h
  obtain ⟨h1', h2', h3'⟩ := h'
  rcases Nat.lt_trichotomy j j' with h | h | h
  · exact absurd (h3' j h1 h) h2
  · exact h
  · exact absurd (h3 j' h1' h) h2'

/-- 'at': the byte at a place; the receiver's copy is one new block -/
theorem at_any (a : Option Addr) (len cap : Nat) (zs : List Int) (c : Bool) (z : Int) (k : Nat) (w : World) (hD : Dat w a len cap zs) (hz : z = (k : Int)) (hk : k ≤ 5000) :
    Calls Ybaf.prog 7 #[.agg #[.slice a len cap, .bool c], .int .i64 z] w fun e w' => e = .returned (.int .u8 (byteAt zs len k)) ∧ w' = w.alloc (.cells #[.slice a len cap, .bool c] 25) := by
  subst hz
  obtain ⟨h1, h2, h3, h4, h5⟩ := hD
  by_cases hlt : k < len
  · rw [byte_in hlt]
    rcases h5 with h5 | ⟨b, off, rfl, hb, hc⟩
    · omega
    · have hcx := hc k hlt
      have hbb : b < w.heap.size + 1 := by omega
      clear hc
      go_enter Ybaf.func7, Ybaf.ntmps7
      go_wp2
      go_ret
      exact ⟨rfl, rfl⟩
  · rw [byte_out hlt]
    clear h5
    go_enter Ybaf.func7, Ybaf.ntmps7
    go_wp2
    go_ret
    exact ⟨rfl, rfl⟩

set_option maxHeartbeats 1000000 in
theorem first_any (a : Option Addr) (len cap : Nat) (zs : List Int) (z : Int) (i : Nat) (p : ByteArray) (w : World) (hD : Dat w a len cap zs) (hz : z = (i : Int)) (hi : i ≤ 1100) (hp : p.size ≤ 1100) :
    Calls Ybaf.prog 9 #[.slice a len cap, .int .i64 z, .string p] w fun e w' => ((e = .returned (.int .i64 (-1)) ∧ Agree zs len i p p.size) ∨ ∃ j, e = .returned (.int .i64 (j : Nat)) ∧ Parts zs len i p j) ∧ w' = w := by
  subst hz
  obtain ⟨h1, h2, h3, h4, h5⟩ := hD
  go_enter Ybaf.func9, Ybaf.ntmps9
  go_wp2
  go_loop [7] (fun t => ∃ k : Nat, k ≤ p.size ∧ t = .int .i64 k ∧ Hid (Agree zs len i p k)) (fun t => p.size - (intOf t).toNat)
  case atStart => exact ⟨0, Nat.zero_le _, rfl, fun _ _ h => absurd h (by omega)⟩
  case round =>
    obtain ⟨k, hk, rfl, HA⟩ := hrel
    by_cases hkp : k < p.size
    · by_cases hin : i + k < len
      · have hbv := byte_in (zs := zs) hin
        have HB : Hid (byteAt zs len (i + k) = zs.getD (i + k) 0) := hbv
        clear hbv
        rcases h5 with h5 | ⟨b, off, ha, hb, hc⟩
        · omega
        · have hcx := hc (i + k) hin
          have h4k := h4 (i + k)
          obtain ⟨x, hx⟩ : ∃ x, x = zs.getD (i + k) 0 := ⟨_, rfl⟩
          rw [← hx] at hcx h4k
          have HX : Hid (x = zs.getD (i + k) 0) := hx
          clear hx hc h4
          rw [ha]
          go_wp2
          · have hne : (x != ↑p[k].toNat) = true := by assumption
            go_ret
            exact ⟨Or.inr ⟨k, rfl, hkp, by rw [HB.out, ← HX.out]; simpa using hne, HA.out⟩, rfl⟩
          · have heq : (x != ↑p[k].toNat) = false := by assumption
            go_round
            case rel => exact ⟨k + 1, by omega, by go_num, HA.out.step hkp (by rw [HB.out, ← HX.out]; simpa using heq)⟩
            case measure => simp [intOf]; omega
      · have hbv := byte_out (zs := zs) hin
        have HB : Hid (byteAt zs len (i + k) = 0) := hbv
        clear hbv h5 h4
        go_wp2
        · have hne : (0 != (p[k].toNat : Int)) = true := by assumption
          go_ret
          exact ⟨Or.inr ⟨k, rfl, hkp, by rw [HB.out]; simpa using hne, HA.out⟩, rfl⟩
        · have heq : (0 != (p[k].toNat : Int)) = false := by assumption
          go_round
          case rel => exact ⟨k + 1, by omega, by go_num, HA.out.step hkp (by rw [HB.out]; simpa using heq)⟩
          case measure => simp [intOf]; omega
    · go_wp2
      go_ret
      exact ⟨Or.inl ⟨rfl, fun j hj _ => HA.out j hj (by omega)⟩, rfl⟩
end Go.Proofs.YbulkguoFmt
