import Derived.Test.YbulkgskPre
import Derived.Laws.BitsAllLaws
namespace Go.Proofs.Ybulkgsk
open Go.RowKit
set_option linter.unusedVariables false

def isLet (n : Int) : Prop := (65 ≤ n ∧ n ≤ 90) ∨ (97 ≤ n ∧ n ≤ 122)

/-- every byte is a letter -/
def Lets (p : ByteArray) : Prop := ∀ i (h : i < p.size), isLet (p[i].toNat : Int)

theorem letr_let (x : Int) : isLet (letr x) := by unfold isLet letr; split <;> omega

theorem lets_of (L : List Int) (h : ∀ n ∈ L, isLet n) : Lets (strOfNums L) := by
  intro i hi
  have hi' : i < L.length := by simpa [strOfNums_size] using hi
  have e : (strOfNums L)[i] = UInt8.ofNat (L[i]).toNat := by
    show (strOfNums L).data[i] = _
    simp [strOfNums]
  have hb := h _ (List.getElem_mem hi')
  have e2 : (((strOfNums L)[i]).toNat : Int) = L[i] := by
    rw [e]
    unfold isLet at hb
    simp
    omega
  rw [e2]; exact hb

theorem pre_let (a : Option Addr) (len cap : Nat) (zs : List Int) (w : World) (hm : len ≤ 1024) (hrow : IsRow .u8 w a len cap zs) :
    Calls Yba.prog 5 #[.slice a len cap] w fun e w' => ∃ p : ByteArray, e = .returned (.string p) ∧ p.size ≤ 1024 ∧ Hid (Lets p) ∧ Below w.heap.size w w' := by
  refine (pre_any a len cap zs w hm hrow).mono fun e w' ⟨he, hb⟩ => ⟨_, he, ?_, lets_of _ ?_, hb⟩
  · rw [strOfNums_size]; simp; omega
  · intro n hn
    obtain ⟨x, _, rfl⟩ := List.mem_map.1 hn
    exact letr_let x

theorem or32_fin : ∀ c : Fin 256, c.val ||| 32 = if c.val / 32 % 2 = 1 then c.val else c.val + 32 := by decide +kernel

theorem or32 (c : Int) (h0 : 0 ≤ c) (h1 : c ≤ 255) : bits .or .u8 c 32 = if c / 32 % 2 = 1 then c else c + 32 := by
  rw [u8_or c 32 h0 (by omega) (by omega) (by omega)]
  have h := or32_fin ⟨c.toNat, by omega⟩
  have h2 : (32 : Int).toNat = 32 := rfl
  rw [h2]
  simp only [] at h
  rw [h]
  split <;> split <;> omega

theorem low_let (q : Int) (h : isLet q) : 97 ≤ lowI q ∧ lowI q ≤ 122 := by unfold isLet at h; unfold lowI; split <;> omega

/-- the heart of the law: two bytes agree but for the bit 0x20 just where the one is the other's small or great letter -/
theorem agree (c q : Int) (h0 : 0 ≤ c) (h1 : c ≤ 255) (hq : isLet q) : bits .or .u8 c 32 = bits .or .u8 q 32 ↔ (c = lowI q ∨ c = lowI q - 32) := by
  have hq' : 0 ≤ q ∧ q ≤ 255 := by unfold isLet at hq; omega
  rw [or32 c h0 h1, or32 q hq'.1 hq'.2]
  unfold isLet at hq
  unfold lowI
  split <;> split <;> split <;> omega

theorem agree_swp (q : Int) (hq : isLet q) : bits .or .u8 (swpI q) 32 = bits .or .u8 q 32 := by
  have h1 : 0 ≤ swpI q ∧ swpI q ≤ 255 := by unfold isLet at hq; unfold swpI; split <;> (try split) <;> omega
  rw [agree _ _ h1.1 h1.2 hq]
  unfold isLet at hq
  unfold swpI lowI
  split <;> (try split) <;> omega

theorem byte_le (s : ByteArray) (i : Nat) (h : i < s.size) : 0 ≤ (s[i].toNat : Int) ∧ (s[i].toNat : Int) ≤ 255 := by
  have := s[i].toNat_lt
  omega
end Go.Proofs.Ybulkgsk
