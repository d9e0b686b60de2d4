import Derived.Test.YbulkgskModel
namespace Go.Proofs.Ybulkgsk
open Go.RowKit
set_option linter.unusedVariables false

/-- what the walk is told of the slice of bools that came in -/
def FRow (w : World) (a : Option Addr) (len : Nat) (B : Nat → Bool) : Prop :=
  len = 0 ∨ ∃ b off, a = some ⟨b, off, none⟩ ∧ b < w.heap.size ∧ ∀ i, i < len → w.cell? ⟨b, off + i, none⟩ = some (.bool (B i))

/-- the list is the word but for the bit 0x20 of each byte -/
def Like (p : ByteArray) (k : Nat) (L : List Int) : Prop :=
  L.length = k ∧ (∀ n ∈ L, 0 ≤ n ∧ n ≤ 255) ∧ ∀ i (hp : i < p.size), i < k → bits .or .u8 (L.getD i 0) 32 = bits .or .u8 (p[i].toNat : Int) 32

theorem like_snoc {p : ByteArray} {k : Nat} {L : List Int} (h : Like p k L) (hk : k < p.size) (c : Int) (h0 : 0 ≤ c) (h1 : c ≤ 255) (hc : bits .or .u8 c 32 = bits .or .u8 (p[k].toNat : Int) 32) : Like p (k + 1) (L ++ [c]) := by
  obtain ⟨hl, hb, hL⟩ := h
  refine ⟨by simp [hl], fun n hn => ?_, fun i hp hi => ?_⟩
  · rcases List.mem_append.1 hn with h | h
    · exact hb n h
    · simp at h; subst h; exact ⟨h0, h1⟩
  · rcases Nat.lt_or_ge i k with h | h
    · have e : (L ++ [c]).getD i 0 = L.getD i 0 := by simp [List.getD, List.getElem?_append_left (show i < L.length from by omega)]
      rw [e]; exact hL i hp h
    · obtain rfl : i = k := by omega
      have e : (L ++ [c]).getD i 0 = c := by simp [List.getD, ← hl]
      rw [e]; exact hc

theorem str_at (L : List Int) (hb : ∀ n ∈ L, 0 ≤ n ∧ n ≤ 255) (i : Nat) (hi : i < (strOfNums L).size) : (((strOfNums L)[i]).toNat : Int) = L.getD i 0 := by
  have hi' : i < L.length := by simpa [strOfNums_size] using hi
  have e : (strOfNums L)[i] = UInt8.ofNat (L[i]).toNat := by
    show (strOfNums L).data[i] = _
    simp [strOfNums]
  have hb := hb _ (List.getElem_mem hi')
  rw [e]
  simp [List.getD, hi']
  omega

theorem fold_like {p t : ByteArray} {L : List Int} (h : Like p p.size L) : FoldP (strOfNums L ++ t) p := by
  obtain ⟨hl, hb, hL⟩ := h
  have hsz : (strOfNums L ++ t).size = L.length + t.size := by simp [strOfNums_size]
  refine ⟨by omega, fun i hs hp => ?_⟩
  have h1 : i < (strOfNums L).size := by rw [strOfNums_size]; omega
  have e : (strOfNums L ++ t)[i] = (strOfNums L)[i] := ByteArray.getElem_append_left h1
  rw [e, str_at L hb i h1]
  exact hL i hp hp

theorem fold_empty (t : ByteArray) : FoldP t ⟨#[]⟩ := ⟨Nat.zero_le _, fun i _ hp => absurd hp (Nat.not_lt_zero i)⟩

theorem fold_short {p : ByteArray} {L : List Int} (h : L.length < p.size) : ¬ FoldP (strOfNums L) p := fun hf => by
  have := hf.1
  rw [strOfNums_size] at this
  omega

theorem swp_has (c : Int) (w : World) (hl : isLet c) :
    Calls Yba.prog 8 #[.int .u8 c] w fun e w' => ∃ l : Int, e = .returned (.int .u8 l) ∧ 0 ≤ l ∧ l ≤ 255 ∧ Hid (bits .or .u8 l 32 = bits .or .u8 c 32) ∧ w' = w :=
  (swp_any c w hl).mono fun e w' ⟨he, hw⟩ => ⟨_, he, by unfold isLet at hl; unfold swpI; split <;> (try split) <;> omega, by unfold isLet at hl; unfold swpI; split <;> (try split) <;> omega, agree_swp c hl, hw⟩

theorem fold_yes (s p : ByteArray) (w : World) (hs : s.size ≤ maxLen) (hp : p.size ≤ maxLen) (h : FoldP s p) :
    Calls Yba.prog 7 #[.string s, .string p] w fun e w' => e = .returned (.bool true) ∧ ∃ n, w' = w.drewN n :=
  (fold_any s p w hs hp).mono fun e w' ⟨⟨b, he, hb⟩, hw⟩ => ⟨by rw [he, hb.2 h], hw⟩

theorem fold_no (s p : ByteArray) (w : World) (hs : s.size ≤ maxLen) (hp : p.size ≤ maxLen) (h : ¬ FoldP s p) :
    Calls Yba.prog 7 #[.string s, .string p] w fun e w' => e = .returned (.bool false) ∧ ∃ n, w' = w.drewN n :=
  (fold_any s p w hs hp).mono fun e w' ⟨⟨b, he, hb⟩, hw⟩ => ⟨by
    have : b = false := by
      cases b
      · rfl
      · exact absurd (hb.1 rfl) h
    rw [he, this], hw⟩

set_option maxHeartbeats 1000000 in
theorem flip_walk (a0 : Option Addr) (len0 cap0 : Nat) (z0 : List Int) (a1 : Option Addr) (len1 cap1 : Nat) (B : Nat → Bool) (t : ByteArray) (w : World)
    (hrow : IsRow .u8 w a0 len0 cap0 z0) (hF : FRow w a1 len1 B) (hlen1 : len1 ≤ 9223372036854775807) (ht : t.size ≤ 140737488351232) :
    Calls Yba.prog 4 #[.slice a0 len0 cap0, .slice a1 len1 cap1, .string t] w fun e w' => e = .returned (.bool true) ∧ Below w.heap.size w w' := by
  have hlen : len0 ≤ 9223372036854775807 := by
    rcases hrow with ⟨_, h, _⟩ | ⟨x, _, h1, h2, _⟩
    · omega
    · unfold maxLen at h2; omega
  obtain ⟨i0, hi, hz0, hz1, hz2⟩ := info_parts Yba.info5
  by_cases hbig : 1024 < len0
  · go_enter Yba.func4, Yba.ntmps4
    go_wp2
    go_ret
    exact ⟨rfl, Below.refl _ _⟩
  · go_enter Yba.func4, Yba.ntmps4
    go_wp2_with (first | (go_at_call 5; refine (pre_let a0 len0 cap0 z0 w (by omega) hrow).mono ?_; rintro e w1 ⟨p, rfl, hp, HL, hb⟩) | (at_make; refine wpList_make_own _ rfl _ _ 22 rfl w1.heap.size 5 i0 (.int .u8 0) 1 Yba.underlying22 hi hz0 hz1 .i64 .i64 _ p.size rfl rfl rfl (by rw [hz2]; omega) (by unfold maxLen; omega) (Nat.le_refl _) ?_; intro w0 hown0 hgrow0))
    go_loopw [8, 9] (fun v i wr => ∃ (k : Nat) (L : List Int), k ≤ p.size ∧ i = .int .i64 k ∧ v = .slice (some ⟨w1.heap.size, 0, none⟩) k p.size ∧
        wr.ownsRow w1.heap.size 5 1 (.slice (some ⟨w1.heap.size, 0, none⟩) k p.size) k (L.map (Value.int .u8)) ∧ Below w1.heap.size w1 wr ∧ Hid (Like p k L))
      (fun _ i _ => p.size - (intOf i).toNat)
    case atStart => exact ⟨0, [], Nat.zero_le _, rfl, rfl, hown0, (Below.refl _ _).grown hgrow0 (Nat.le_refl _) (fun k h => by cases h), rfl, fun n h => by simp at h, fun i _ h => absurd h (by omega)⟩
    case round =>
      obtain ⟨k, L, hk, rfl, rfl, hown, hnx, HI⟩ := hrel
      have hsz1 : w.heap.size ≤ w1.heap.size := hb.size
      by_cases hlt : k < p.size
      · by_cases hfl : k < len1
        · rcases hF with hF | ⟨bF, oF, ha, hbF, hcF⟩
          · omega
          · have hcx : wr.cell? ⟨bF, oF + k, none⟩ = some (.bool (B k)) := ((hnx.cell (show bF < w1.heap.size from by omega)).trans (hb.cell (p := ⟨bF, oF + k, none⟩) hbF)).trans (hcF k hfl)
            rw [ha]
            clear hcF
            by_cases hB : B k = true
            · have HB : Hid (B k = true) := hB
              rw [hB] at hcx
              clear hB
              go_wp2_with (first | (go_at_call 8; refine (swp_has _ _ (HL.out k hlt)).mono ?_; rintro e w2 ⟨l, rfl, hl1, hl2, Hl, rfl⟩) | (at_builtin; refine wpList_append_fits _ rfl (.tmp 40) (.tmp 42) 22 rfl w1.heap.size 5 i0 1 Yba.underlying22 hi hz1 w1.heap.size k p.size _ rfl (hown.alloc _) ⟨_, 0, none⟩ 1 1 [.int .u8 l] rfl rfl (cell_one_new _ _ _) (by intro u hu; simp at hu; subst hu; rfl) (by omega) ?_; intro w3 hown1 hgrow1))
              go_roundw
              case rel => exact ⟨k + 1, L ++ [l], by omega, by go_num, rfl, by simpa using hown1, (hnx.alloc hnx.size _).grown hgrow1 (by simp; have := hnx.size; omega) (fun k hk => by cases hk; exact Nat.le_refl _), like_snoc HI.out hlt l hl1 hl2 Hl.out⟩
              case measure => simp [intOf]; omega
            · have hB' : B k = false := by simpa using hB
              rw [hB'] at hcx
              clear hB hB'
              go_wp2_with ((at_builtin; refine wpList_append_fits _ rfl (.tmp 40) (.tmp 42) 22 rfl w1.heap.size 5 i0 1 Yba.underlying22 hi hz1 w1.heap.size k p.size _ rfl (hown.alloc _) ⟨_, 0, none⟩ 1 1 [.int .u8 (p[k].toNat : Int)] rfl rfl (cell_one_new _ _ _) (by intro u hu; simp at hu; subst hu; rfl) (by omega) ?_; intro w3 hown1 hgrow1))
              go_roundw
              case rel => exact ⟨k + 1, L ++ [(p[k].toNat : Int)], by omega, by go_num, rfl, by simpa using hown1, (hnx.alloc hnx.size _).grown hgrow1 (by simp; have := hnx.size; omega) (fun k hk => by cases hk; exact Nat.le_refl _), like_snoc HI.out hlt _ (byte_le p k hlt).1 (byte_le p k hlt).2 rfl⟩
              case measure => simp [intOf]; omega
        · go_wp2_with ((at_builtin; refine wpList_append_fits _ rfl (.tmp 40) (.tmp 42) 22 rfl w1.heap.size 5 i0 1 Yba.underlying22 hi hz1 w1.heap.size k p.size _ rfl (hown.alloc _) ⟨_, 0, none⟩ 1 1 [.int .u8 (p[k].toNat : Int)] rfl rfl (cell_one_new _ _ _) (by intro u hu; simp at hu; subst hu; rfl) (by omega) ?_; intro w3 hown1 hgrow1))
          go_roundw
          case rel => exact ⟨k + 1, L ++ [(p[k].toNat : Int)], by omega, by go_num, rfl, by simpa using hown1, (hnx.alloc hnx.size _).grown hgrow1 (by simp; have := hnx.size; omega) (fun k hk => by cases hk; exact Nat.le_refl _), like_snoc HI.out hlt _ (byte_le p k hlt).1 (byte_le p k hlt).2 rfl⟩
          case measure => simp [intOf]; omega
      · obtain rfl : k = p.size := by omega
        have hL := HI.out.1
        have HLL : Hid (L.length = p.size) := hL
        have hcv : ∀ m, (convert 22 9 (.slice (some ⟨w1.heap.size, 0, none⟩) p.size p.size)).run Yba.prog (wr.drewN m) = .ok (.string (strOfNums L)) (wr.drewN m) := fun m =>
          @run_convert_bytes_arg Yba.prog (wr.drewN m) 22 5 Yba.underlying22 Yba.underlying5 w1.heap.size 0 p.size p.size L hL (fun i hik => by
            rw [Nat.zero_add, World.cell?_drewN, hown.cellAt i (by omega)]
            have h1 : i < L.length := by omega
            simp [List.getD, h1]) 9 Yba.underlying9
        have hcv2 : ∀ m, (convert 22 9 (.slice (some ⟨w1.heap.size, 0, none⟩) (p.size - 1) p.size)).run Yba.prog (wr.drewN m) = .ok (.string (strOfNums (L.take (p.size - 1)))) (wr.drewN m) := fun m =>
          @run_convert_bytes_arg Yba.prog (wr.drewN m) 22 5 Yba.underlying22 Yba.underlying5 w1.heap.size 0 (p.size - 1) p.size (L.take (p.size - 1)) (by rw [List.length_take]; omega) (fun i hik => by
            rw [Nat.zero_add, World.cell?_drewN, hown.cellAt i (by omega)]
            have h1 : i < L.length := by omega
            simp [List.getD, h1, hik]) 9 Yba.underlying9
        have hcv0 := hcv 0
        rw [World.drewN_zero] at hcv0
        clear hL hown
        have hsz : (strOfNums L).size ≤ 1024 := by rw [strOfNums_size, HLL.out]; exact hp
        go_wp2_with fail
        refine (fold_yes (strOfNums L ++ t) p _ (by rw [ByteArray.size_append]; unfold maxLen; omega) (by unfold maxLen; omega) (fold_like HI.out)).mono ?_
        rintro e w2 ⟨rfl, n2, rfl⟩
        go_wp2_with fail
        refine (fold_yes t ⟨#[]⟩ _ (by unfold maxLen; omega) (by unfold maxLen; exact Nat.zero_le _) (fold_empty t)).mono ?_
        rintro e w3 ⟨rfl, n3, rfl⟩
        have hBe : Below w.heap.size w (wr.drewN (n2 + n3)) := below_drewN (hb.trans (hnx.mono hsz1)) _
        by_cases hpos : 0 < p.size
        · go_wp2_with fail
          refine (fold_no (strOfNums (L.take (p.size - 1))) p _ (by rw [strOfNums_size, List.length_take]; unfold maxLen; omega) (by unfold maxLen; omega) (fold_short (by rw [List.length_take]; omega))).mono ?_
          rintro e w4 ⟨rfl, n4, rfl⟩
          go_wp2
          go_ret
          exact ⟨rfl, by simpa using below_drewN hBe n4⟩
        · go_wp2
          go_ret
          exact ⟨rfl, hBe⟩
end Go.Proofs.Ybulkgsk
