import Derived.Test.YbulkgvqByte
import Derived.Test.YbulkgvqText
import Derived.Lib.Strings
namespace Go.Proofs.Ybulkgvq
open Go.RowKit
set_option linter.unusedVariables false

/-- what 'numberText' writes, as bytes -/
def numL (neg : Bool) (i f e : ByteArray) : List UInt8 :=
  (if neg then [45] else []) ++ i.data.toList ++ (if f.toList.isEmpty then [] else 46 :: f.data.toList) ++ (if e.toList.isEmpty then [] else 101 :: e.data.toList)

set_option maxHeartbeats 400000 in
theorem num_any (neg : Bool) (b : Nat) (i f e : ByteArray) (w : World) (hi : i.size ≤ 1048576) (hf : f.size ≤ 1048576) (he : e.size ≤ 1048576)
    (h1 : w.cell? ⟨b, 1, none⟩ = some (.bool neg)) (h3 : w.cell? ⟨b, 3, none⟩ = some (.string i)) (h4 : w.cell? ⟨b, 4, none⟩ = some (.string f)) (h5 : w.cell? ⟨b, 5, none⟩ = some (.string e)) :
    Calls Yba.prog 8 #[.pointer (some ⟨b, 0, none⟩)] w fun en w' => ∃ R : ByteArray, en = .returned (.string R) ∧ Hid (R.data.toList = numL neg i f e) ∧ w' = w := by
  cases hfe : f.toList.isEmpty <;> cases hee : e.toList.isEmpty <;> cases neg
  all_goals
    go_enter Yba.func8, Yba.ntmps8
    go_wp2
    go_ret
    exact ⟨_, rfl, by unfold Hid numL; rw [hfe, hee]; simp, rfl⟩

set_option maxHeartbeats 1000000 in
theorem lay_nfe (i f e : ByteArray) (w : World) (hi : i.size ≤ 1048576) (hf : f.size ≤ 1048576) (he : e.size ≤ 1048576) (hfe : f.toList.isEmpty = false) (hee : e.toList.isEmpty = false) :
    Calls Yba.prog 5 #[.bool true, .string i, .string f, .string e] w fun en w' => en = .returned (.bool true) ∧ Grown w w' := by
  go_enter Yba.func5, Yba.ntmps5
  go_wp2_with fail
  refine (num_any true w.heap.size i f e _ hi hf he (by go_simp) (by go_simp) (by go_simp) (by go_simp)).mono ?_
  rintro en w' ⟨R, rfl, HR, rfl⟩
  obtain ⟨hs1, hs2, hx0, ⟨hz0, hy0⟩, ⟨hz1, hy1⟩, hx1, ⟨hz2, hy2⟩, hx2⟩ := facts_nfe i f e R (by rw [HR.out]; simp [numL, hfe, hee])
  clear HR
  go_wp2
  go_ret
  exact ⟨ret_bool (by first | rfl | exact beq_iff_eq.2 (by omega)), by repeat (first | exact Grown.refl _ | apply Grown.drew | apply Grown.alloc)⟩

set_option maxHeartbeats 1000000 in
theorem lay_nfz (i f e : ByteArray) (w : World) (hi : i.size ≤ 1048576) (hf : f.size ≤ 1048576) (he : e.size ≤ 1048576) (hfe : f.toList.isEmpty = false) (hee : e.toList.isEmpty = true) :
    Calls Yba.prog 5 #[.bool true, .string i, .string f, .string e] w fun en w' => en = .returned (.bool true) ∧ Grown w w' := by
  go_enter Yba.func5, Yba.ntmps5
  go_wp2_with fail
  refine (num_any true w.heap.size i f e _ hi hf he (by go_simp) (by go_simp) (by go_simp) (by go_simp)).mono ?_
  rintro en w' ⟨R, rfl, HR, rfl⟩
  obtain ⟨hs1, hs2, hx0, ⟨hz0, hy0⟩, ⟨hz1, hy1⟩, hx1⟩ := facts_nfz i f e R (by rw [HR.out]; simp [numL, hfe, hee])
  clear HR
  go_wp2
  go_ret
  exact ⟨ret_bool (by first | rfl | exact beq_iff_eq.2 (by omega)), by repeat (first | exact Grown.refl _ | apply Grown.drew | apply Grown.alloc)⟩

set_option maxHeartbeats 1000000 in
theorem lay_nze (i f e : ByteArray) (w : World) (hi : i.size ≤ 1048576) (hf : f.size ≤ 1048576) (he : e.size ≤ 1048576) (hfe : f.toList.isEmpty = true) (hee : e.toList.isEmpty = false) :
    Calls Yba.prog 5 #[.bool true, .string i, .string f, .string e] w fun en w' => en = .returned (.bool true) ∧ Grown w w' := by
  go_enter Yba.func5, Yba.ntmps5
  go_wp2_with fail
  refine (num_any true w.heap.size i f e _ hi hf he (by go_simp) (by go_simp) (by go_simp) (by go_simp)).mono ?_
  rintro en w' ⟨R, rfl, HR, rfl⟩
  obtain ⟨hs1, hs2, hx0, ⟨hz0, hy0⟩, ⟨hz2, hy2⟩, hx2⟩ := facts_nze i f e R (by rw [HR.out]; simp [numL, hfe, hee])
  clear HR
  go_wp2
  go_ret
  exact ⟨ret_bool (by first | rfl | exact beq_iff_eq.2 (by omega)), by repeat (first | exact Grown.refl _ | apply Grown.drew | apply Grown.alloc)⟩

set_option maxHeartbeats 1000000 in
theorem lay_nzz (i f e : ByteArray) (w : World) (hi : i.size ≤ 1048576) (hf : f.size ≤ 1048576) (he : e.size ≤ 1048576) (hfe : f.toList.isEmpty = true) (hee : e.toList.isEmpty = true) :
    Calls Yba.prog 5 #[.bool true, .string i, .string f, .string e] w fun en w' => en = .returned (.bool true) ∧ Grown w w' := by
  go_enter Yba.func5, Yba.ntmps5
  go_wp2_with fail
  refine (num_any true w.heap.size i f e _ hi hf he (by go_simp) (by go_simp) (by go_simp) (by go_simp)).mono ?_
  rintro en w' ⟨R, rfl, HR, rfl⟩
  obtain ⟨hs1, hs2, hx0, ⟨hz0, hy0⟩⟩ := facts_nzz i f e R (by rw [HR.out]; simp [numL, hfe, hee])
  clear HR
  go_wp2
  go_ret
  exact ⟨ret_bool (by first | rfl | exact beq_iff_eq.2 (by omega)), by repeat (first | exact Grown.refl _ | apply Grown.drew | apply Grown.alloc)⟩

set_option maxHeartbeats 1000000 in
theorem lay_pfe (i f e : ByteArray) (w : World) (hi : i.size ≤ 1048576) (hf : f.size ≤ 1048576) (he : e.size ≤ 1048576) (hfe : f.toList.isEmpty = false) (hee : e.toList.isEmpty = false) :
    Calls Yba.prog 5 #[.bool false, .string i, .string f, .string e] w fun en w' => en = .returned (.bool true) ∧ Grown w w' := by
  go_enter Yba.func5, Yba.ntmps5
  go_wp2_with fail
  refine (num_any false w.heap.size i f e _ hi hf he (by go_simp) (by go_simp) (by go_simp) (by go_simp)).mono ?_
  rintro en w' ⟨R, rfl, HR, rfl⟩
  obtain ⟨hs1, hs2, hx0, ⟨hz1, hy1⟩, hx1, ⟨hz2, hy2⟩, hx2⟩ := facts_pfe i f e R (by rw [HR.out]; simp [numL, hfe, hee])
  clear HR
  go_wp2
  go_ret
  exact ⟨ret_bool (by first | rfl | exact beq_iff_eq.2 (by omega)), by repeat (first | exact Grown.refl _ | apply Grown.drew | apply Grown.alloc)⟩

set_option maxHeartbeats 1000000 in
theorem lay_pfz (i f e : ByteArray) (w : World) (hi : i.size ≤ 1048576) (hf : f.size ≤ 1048576) (he : e.size ≤ 1048576) (hfe : f.toList.isEmpty = false) (hee : e.toList.isEmpty = true) :
    Calls Yba.prog 5 #[.bool false, .string i, .string f, .string e] w fun en w' => en = .returned (.bool true) ∧ Grown w w' := by
  go_enter Yba.func5, Yba.ntmps5
  go_wp2_with fail
  refine (num_any false w.heap.size i f e _ hi hf he (by go_simp) (by go_simp) (by go_simp) (by go_simp)).mono ?_
  rintro en w' ⟨R, rfl, HR, rfl⟩
  obtain ⟨hs1, hs2, hx0, ⟨hz1, hy1⟩, hx1⟩ := facts_pfz i f e R (by rw [HR.out]; simp [numL, hfe, hee])
  clear HR
  go_wp2
  go_ret
  exact ⟨ret_bool (by first | rfl | exact beq_iff_eq.2 (by omega)), by repeat (first | exact Grown.refl _ | apply Grown.drew | apply Grown.alloc)⟩

set_option maxHeartbeats 1000000 in
theorem lay_pze (i f e : ByteArray) (w : World) (hi : i.size ≤ 1048576) (hf : f.size ≤ 1048576) (he : e.size ≤ 1048576) (hfe : f.toList.isEmpty = true) (hee : e.toList.isEmpty = false) :
    Calls Yba.prog 5 #[.bool false, .string i, .string f, .string e] w fun en w' => en = .returned (.bool true) ∧ Grown w w' := by
  go_enter Yba.func5, Yba.ntmps5
  go_wp2_with fail
  refine (num_any false w.heap.size i f e _ hi hf he (by go_simp) (by go_simp) (by go_simp) (by go_simp)).mono ?_
  rintro en w' ⟨R, rfl, HR, rfl⟩
  obtain ⟨hs1, hs2, hx0, ⟨hz2, hy2⟩, hx2⟩ := facts_pze i f e R (by rw [HR.out]; simp [numL, hfe, hee])
  clear HR
  go_wp2
  go_ret
  exact ⟨ret_bool (by first | rfl | exact beq_iff_eq.2 (by omega)), by repeat (first | exact Grown.refl _ | apply Grown.drew | apply Grown.alloc)⟩

set_option maxHeartbeats 1000000 in
theorem lay_pzz (i f e : ByteArray) (w : World) (hi : i.size ≤ 1048576) (hf : f.size ≤ 1048576) (he : e.size ≤ 1048576) (hfe : f.toList.isEmpty = true) (hee : e.toList.isEmpty = true) :
    Calls Yba.prog 5 #[.bool false, .string i, .string f, .string e] w fun en w' => en = .returned (.bool true) ∧ Grown w w' := by
  go_enter Yba.func5, Yba.ntmps5
  go_wp2_with fail
  refine (num_any false w.heap.size i f e _ hi hf he (by go_simp) (by go_simp) (by go_simp) (by go_simp)).mono ?_
  rintro en w' ⟨R, rfl, HR, rfl⟩
  obtain ⟨hs1, hs2, hx0⟩ := facts_pzz i f e R (by rw [HR.out]; simp [numL, hfe, hee])
  clear HR
  go_wp2
  go_ret
  exact ⟨ret_bool (by first | rfl | exact beq_iff_eq.2 (by omega)), by repeat (first | exact Grown.refl _ | apply Grown.drew | apply Grown.alloc)⟩

end Go.Proofs.Ybulkgvq
