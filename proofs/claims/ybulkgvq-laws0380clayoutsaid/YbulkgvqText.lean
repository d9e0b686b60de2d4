import Derived.Lib.Strings
namespace Go.Proofs.Ybulkgvq
set_option linter.unusedVariables false
set_option linter.unusedSimpArgs false

theorem part (R x : ByteArray) (A B : List UInt8) (h : R.data.toList = A ++ (x.data.toList ++ B)) (a b : Nat) (ha : A.length = a) (hb : b = a + x.size) : R.extract a b = x := by
  have e : (R.extract a b).data.toList = x.data.toList := by
    have hl : b - a = x.data.toList.length := by
      have h1 : x.data.toList.length = x.size := by simp
      omega
    rw [Go.Lib.extract_data, h, hl, ← ha, List.drop_left, List.take_left]
  have e2 : (R.extract a b).data = x.data := by
    rw [← Array.toList_inj]; exact e
  exact ByteArray.ext e2

theorem ind (R : ByteArray) (A B : List UInt8) (c : UInt8) (h : R.data.toList = A ++ (c :: B)) (a : Nat) (ha : A.length = a) (hlt : a < R.size) : (R[a]'hlt).toNat = c.toNat := by
  have e : R.data.toList[a]? = some c := by rw [h, ← ha]; simp
  have e2 : R.data[a]? = some c := by rw [← Array.getElem?_toList]; exact e
  have e3 : R.data[a]'hlt = c := by
    rw [Array.getElem?_eq_getElem hlt] at e2
    exact Option.some.inj e2
  show (R.data[a]'hlt).toNat = c.toNat
  rw [e3]

theorem lenL (x : ByteArray) : x.data.toList.length = x.size := by simp

theorem facts_nfe (i f e R : ByteArray) (hR : R.data.toList = [45] ++ i.data.toList ++ (46 :: f.data.toList) ++ (101 :: e.data.toList)) :
    R.size ≤ 1 + i.size + (1 + f.size) + (1 + e.size) ∧ 1 + i.size + (1 + f.size) + (1 + e.size) ≤ R.size ∧ R.extract 1 (1 + i.size) = i ∧ (∃ h : 0 < R.size, (R[0]'h).toNat = 45) ∧ (∃ h : 1 + i.size < R.size, (R[1 + i.size]'h).toNat = 46) ∧ R.extract (1 + i.size + 1) (1 + i.size + 1 + f.size) = f ∧ (∃ h : 1 + i.size + (1 + f.size) < R.size, (R[1 + i.size + (1 + f.size)]'h).toNat = 101) ∧ R.extract (1 + i.size + (1 + f.size) + 1) (1 + i.size + (1 + f.size) + 1 + e.size) = e := by
  have hsz : R.size = 1 + i.size + (1 + f.size) + (1 + e.size) := by
    rw [← lenL R, hR]
    simp only [List.length_append, List.length_cons, List.length_nil, lenL]
    try omega
  exact ⟨by omega, by omega, part R i [45] ((46 :: f.data.toList) ++ (101 :: e.data.toList)) (by rw [hR]; try simp) _ _ (by simp [lenL]; try omega) (by omega), ⟨by omega, ind R [] (i.data.toList ++ ((46 :: f.data.toList) ++ (101 :: e.data.toList))) 45 (by rw [hR]; try simp) 0 rfl _⟩, ⟨by omega, ind R ([45] ++ i.data.toList) (f.data.toList ++ (101 :: e.data.toList)) 46 (by rw [hR]; try simp) _ (by simp [lenL]; try omega) _⟩, part R f ([45] ++ i.data.toList ++ [46]) ((101 :: e.data.toList)) (by rw [hR]; try simp) _ _ (by simp [lenL]; try omega) rfl, ⟨by omega, ind R ([45] ++ i.data.toList ++ (46 :: f.data.toList)) (e.data.toList) 101 (by rw [hR]; try simp) _ (by simp [lenL]; try omega) _⟩, part R e ([45] ++ i.data.toList ++ (46 :: f.data.toList) ++ [101]) [] (by rw [hR]; try simp) _ _ (by simp [lenL]; try omega) rfl⟩

theorem facts_nfz (i f e R : ByteArray) (hR : R.data.toList = [45] ++ i.data.toList ++ (46 :: f.data.toList)) :
    R.size ≤ 1 + i.size + (1 + f.size) ∧ 1 + i.size + (1 + f.size) ≤ R.size ∧ R.extract 1 (1 + i.size) = i ∧ (∃ h : 0 < R.size, (R[0]'h).toNat = 45) ∧ (∃ h : 1 + i.size < R.size, (R[1 + i.size]'h).toNat = 46) ∧ R.extract (1 + i.size + 1) (1 + i.size + 1 + f.size) = f := by
  have hsz : R.size = 1 + i.size + (1 + f.size) := by
    rw [← lenL R, hR]
    simp only [List.length_append, List.length_cons, List.length_nil, lenL]
    try omega
  exact ⟨by omega, by omega, part R i [45] ((46 :: f.data.toList) ++ []) (by rw [hR]; try simp) _ _ (by simp [lenL]; try omega) (by omega), ⟨by omega, ind R [] (i.data.toList ++ ((46 :: f.data.toList) ++ [])) 45 (by rw [hR]; try simp) 0 rfl _⟩, ⟨by omega, ind R ([45] ++ i.data.toList) (f.data.toList ++ []) 46 (by rw [hR]; try simp) _ (by simp [lenL]; try omega) _⟩, part R f ([45] ++ i.data.toList ++ [46]) ([]) (by rw [hR]; try simp) _ _ (by simp [lenL]; try omega) rfl⟩

theorem facts_nze (i f e R : ByteArray) (hR : R.data.toList = [45] ++ i.data.toList ++ (101 :: e.data.toList)) :
    R.size ≤ 1 + i.size + (1 + e.size) ∧ 1 + i.size + (1 + e.size) ≤ R.size ∧ R.extract 1 (1 + i.size) = i ∧ (∃ h : 0 < R.size, (R[0]'h).toNat = 45) ∧ (∃ h : 1 + i.size < R.size, (R[1 + i.size]'h).toNat = 101) ∧ R.extract (1 + i.size + 1) (1 + i.size + 1 + e.size) = e := by
  have hsz : R.size = 1 + i.size + (1 + e.size) := by
    rw [← lenL R, hR]
    simp only [List.length_append, List.length_cons, List.length_nil, lenL]
    try omega
  exact ⟨by omega, by omega, part R i [45] ([] ++ (101 :: e.data.toList)) (by rw [hR]; try simp) _ _ (by simp [lenL]; try omega) (by omega), ⟨by omega, ind R [] (i.data.toList ++ ([] ++ (101 :: e.data.toList))) 45 (by rw [hR]; try simp) 0 rfl _⟩, ⟨by omega, ind R ([45] ++ i.data.toList) (e.data.toList) 101 (by rw [hR]; try simp) _ (by simp [lenL]; try omega) _⟩, part R e ([45] ++ i.data.toList ++ [101]) [] (by rw [hR]; try simp) _ _ (by simp [lenL]; try omega) rfl⟩

theorem facts_nzz (i f e R : ByteArray) (hR : R.data.toList = [45] ++ i.data.toList) :
    R.size ≤ 1 + i.size ∧ 1 + i.size ≤ R.size ∧ R.extract 1 (1 + i.size) = i ∧ (∃ h : 0 < R.size, (R[0]'h).toNat = 45) := by
  have hsz : R.size = 1 + i.size := by
    rw [← lenL R, hR]
    simp only [List.length_append, List.length_cons, List.length_nil, lenL]
    try omega
  exact ⟨by omega, by omega, part R i [45] ([] ++ []) (by rw [hR]; try simp) _ _ (by simp [lenL]; try omega) (by omega), ⟨by omega, ind R [] (i.data.toList ++ ([] ++ [])) 45 (by rw [hR]; try simp) 0 rfl _⟩⟩

theorem facts_pfe (i f e R : ByteArray) (hR : R.data.toList = i.data.toList ++ (46 :: f.data.toList) ++ (101 :: e.data.toList)) :
    R.size ≤ i.size + (1 + f.size) + (1 + e.size) ∧ i.size + (1 + f.size) + (1 + e.size) ≤ R.size ∧ R.extract 0 i.size = i ∧ (∃ h : i.size < R.size, (R[i.size]'h).toNat = 46) ∧ R.extract (i.size + 1) (i.size + 1 + f.size) = f ∧ (∃ h : i.size + (1 + f.size) < R.size, (R[i.size + (1 + f.size)]'h).toNat = 101) ∧ R.extract (i.size + (1 + f.size) + 1) (i.size + (1 + f.size) + 1 + e.size) = e := by
  have hsz : R.size = i.size + (1 + f.size) + (1 + e.size) := by
    rw [← lenL R, hR]
    simp only [List.length_append, List.length_cons, List.length_nil, lenL]
    try omega
  exact ⟨by omega, by omega, part R i [] ((46 :: f.data.toList) ++ (101 :: e.data.toList)) (by rw [hR]; try simp) _ _ (by simp [lenL]; try omega) (by omega), ⟨by omega, ind R (i.data.toList) (f.data.toList ++ (101 :: e.data.toList)) 46 (by rw [hR]; try simp) _ (by simp [lenL]; try omega) _⟩, part R f (i.data.toList ++ [46]) ((101 :: e.data.toList)) (by rw [hR]; try simp) _ _ (by simp [lenL]; try omega) rfl, ⟨by omega, ind R (i.data.toList ++ (46 :: f.data.toList)) (e.data.toList) 101 (by rw [hR]; try simp) _ (by simp [lenL]; try omega) _⟩, part R e (i.data.toList ++ (46 :: f.data.toList) ++ [101]) [] (by rw [hR]; try simp) _ _ (by simp [lenL]; try omega) rfl⟩

theorem facts_pfz (i f e R : ByteArray) (hR : R.data.toList = i.data.toList ++ (46 :: f.data.toList)) :
    R.size ≤ i.size + (1 + f.size) ∧ i.size + (1 + f.size) ≤ R.size ∧ R.extract 0 i.size = i ∧ (∃ h : i.size < R.size, (R[i.size]'h).toNat = 46) ∧ R.extract (i.size + 1) (i.size + 1 + f.size) = f := by
  have hsz : R.size = i.size + (1 + f.size) := by
    rw [← lenL R, hR]
    simp only [List.length_append, List.length_cons, List.length_nil, lenL]
    try omega
  exact ⟨by omega, by omega, part R i [] ((46 :: f.data.toList) ++ []) (by rw [hR]; try simp) _ _ (by simp [lenL]; try omega) (by omega), ⟨by omega, ind R (i.data.toList) (f.data.toList ++ []) 46 (by rw [hR]; try simp) _ (by simp [lenL]; try omega) _⟩, part R f (i.data.toList ++ [46]) ([]) (by rw [hR]; try simp) _ _ (by simp [lenL]; try omega) rfl⟩

theorem facts_pze (i f e R : ByteArray) (hR : R.data.toList = i.data.toList ++ (101 :: e.data.toList)) :
    R.size ≤ i.size + (1 + e.size) ∧ i.size + (1 + e.size) ≤ R.size ∧ R.extract 0 i.size = i ∧ (∃ h : i.size < R.size, (R[i.size]'h).toNat = 101) ∧ R.extract (i.size + 1) (i.size + 1 + e.size) = e := by
  have hsz : R.size = i.size + (1 + e.size) := by
    rw [← lenL R, hR]
    simp only [List.length_append, List.length_cons, List.length_nil, lenL]
    try omega
  exact ⟨by omega, by omega, part R i [] ([] ++ (101 :: e.data.toList)) (by rw [hR]; try simp) _ _ (by simp [lenL]; try omega) (by omega), ⟨by omega, ind R (i.data.toList) (e.data.toList) 101 (by rw [hR]; try simp) _ (by simp [lenL]; try omega) _⟩, part R e (i.data.toList ++ [101]) [] (by rw [hR]; try simp) _ _ (by simp [lenL]; try omega) rfl⟩

theorem facts_pzz (i f e R : ByteArray) (hR : R.data.toList = i.data.toList) :
    R.size ≤ i.size ∧ i.size ≤ R.size ∧ R.extract 0 i.size = i := by
  have hsz : R.size = i.size := by
    rw [← lenL R, hR]
    simp only [List.length_append, List.length_cons, List.length_nil, lenL]
    try omega
  exact ⟨by omega, by omega, part R i [] ([] ++ []) (by rw [hR]; try simp) _ _ (by simp [lenL]; try omega) (by omega)⟩

end Go.Proofs.Ybulkgvq
