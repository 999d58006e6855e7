/-
  The plain laws of the second search-reason law: no Go in sight.
-/
import Derived.Test.Qxb6612617aFmtPlain
namespace Go.Proofs.Qxb6612617aFmt

theorem parts_cut (r n h : ByteArray) (p q : Nat) (h0 : r.size ≤ 262144) (h1 : n.size ≤ 262144) (h2 : h.size ≤ 262144) (hp : p ≤ r.size) :
    ∃ A B C : ByteArray, A = reason r n h ∧ B = reason (r.extract p r.size) n h ∧ C = reason r n (h.extract 0 q) ∧
      A.size = r.size + n.size + h.size + 50 ∧ B.size ≤ 1000000 ∧ C.size ≤ 1000000 ∧
      A.extract 0 r.size = r ∧ (A.toList == (r.extract 0 p ++ B).toList) = true ∧ (A.toList == (C ++ h.extract q h.size).toList) = true ∧
      A.extract (r.size + 37) (r.size + 37 + n.size) = n := by
  have lr : r.data.toList.length = r.size := rfl
  have ln : n.data.toList.length = n.size := rfl
  have lh : h.data.toList.length = h.size := rfl
  have l1 : mid1.length = 37 := rfl
  have zB := size_reason (r.extract p r.size) n h
  have zC := size_reason r n (h.extract 0 q)
  have er : (r.extract p r.size).size = r.size - p := by simp
  have eh : (h.extract 0 q).size ≤ h.size := by simp; exact Nat.min_le_right _ _
  refine ⟨_, _, _, rfl, rfl, rfl, size_reason r n h, by omega, by omega, ?_, ?_, ?_, ?_⟩
  · apply ByteArray.ext
    apply Array.toList_inj.1
    rw [list_extract, list_reason, Nat.sub_zero, List.drop_zero, ← lr, List.take_left']
    rfl
  · apply same_of
    rw [list_append, list_reason, list_reason, list_extract, list_extract, Nat.sub_zero, List.drop_zero, ← List.append_assoc (List.take p _)]
    congr 1
    rw [List.take_of_length_le (l := List.drop p _) (by rw [List.length_drop, lr]; exact Nat.le_refl _), List.take_append_drop]
  · apply same_of
    rw [list_append, list_reason, list_reason, list_extract, list_extract, Nat.sub_zero, List.drop_zero]
    rw [List.take_of_length_le (l := List.drop q _) (by rw [List.length_drop, lh]; exact Nat.le_refl _)]
    simp only [List.append_assoc, List.take_append_drop]
  · apply ByteArray.ext
    apply Array.toList_inj.1
    rw [list_extract, list_reason, ← List.append_assoc r.data.toList, List.drop_left' (by rw [List.length_append]; omega), List.take_left' (by omega)]

theorem same_self (a : ByteArray) : (a.toList == a.toList) = true := same_of rfl

end Go.Proofs.Qxb6612617aFmt
