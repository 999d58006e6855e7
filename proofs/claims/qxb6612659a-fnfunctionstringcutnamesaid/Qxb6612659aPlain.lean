/-
  The plain laws on Function.String's text: no Go in sight.
-/
import Derived.Laws.Strings
namespace Go.Proofs.Qxb6612659a.Plain

/-- what Function.String gives: the fixed nine bytes, then the name -/
def fs (n : ByteArray) : ByteArray := ⟨#[111, 114, 103, 115, 112, 105, 110, 101, 46]⟩ ++ n

theorem list_append (a b : ByteArray) : (a ++ b).data.toList = a.data.toList ++ b.data.toList := by
  rw [ByteArray.data_append, Array.toList_append]

theorem list_extract (a : ByteArray) (i j : Nat) : (a.extract i j).data.toList = (a.data.toList.drop i).take (j - i) := by
  rw [ByteArray.data_extract, Array.toList_extract, List.extract_eq_take_drop]

theorem list_fs (n : ByteArray) : (fs n).data.toList = [111, 114, 103, 115, 112, 105, 110, 101, 46] ++ n.data.toList := list_append _ _

theorem size_fs (n : ByteArray) : (fs n).size = n.size + 9 := by
  unfold fs
  rw [ByteArray.size_append]
  have e : (ByteArray.mk #[111, 114, 103, 115, 112, 105, 110, 101, 46]).size = 9 := rfl
  omega

theorem same_of {a b : ByteArray} (h : a.data.toList = b.data.toList) : (a.toList == b.toList) = true := by
  rw [ByteArray.toList_eq, ByteArray.toList_eq, h]; simp

theorem same_self (a : ByteArray) : (a.toList == a.toList) = true := same_of rfl

theorem same_fs (a b : ByteArray) : ((fs a).toList == (fs b).toList) = (a.toList == b.toList) := by
  rw [ByteArray.toList_eq, ByteArray.toList_eq, ByteArray.toList_eq, ByteArray.toList_eq, list_fs, list_fs, Bool.eq_iff_iff]
  simp

/-- the texts of the first law, under names of their own -/
theorem parts_cut (n : ByteArray) (p : Nat) (h0 : n.size ≤ 65536) :
    ∃ A B C : ByteArray, A = fs n ∧ B = fs (n.extract 0 p) ∧ C = fs ⟨#[]⟩ ∧ B.size ≤ 1000000 ∧ 0 < C.size ∧ C.size ≤ 1000000 ∧
      (A.toList == (B ++ n.extract p n.size).toList) = true ∧ (A.toList == (C ++ n).toList) = true := by
  have ln : n.data.toList.length = n.size := rfl
  have zB := size_fs (n.extract 0 p)
  have zC := size_fs ⟨#[]⟩
  have z0 : (ByteArray.mk #[]).size = 0 := rfl
  have en : (n.extract 0 p).size ≤ n.size := by simp; exact Nat.min_le_right _ _
  refine ⟨_, _, _, rfl, rfl, rfl, by omega, by omega, by omega, ?_, ?_⟩
  · apply same_of
    rw [list_append, list_fs, list_fs, list_extract, list_extract, Nat.sub_zero, List.drop_zero, List.append_assoc]
    rw [List.take_of_length_le (l := List.drop p _) (by rw [List.length_drop, ln]; exact Nat.le_refl _), List.take_append_drop]
  · apply same_of
    rw [list_append, list_fs, list_fs]
    simp

/-- a name stands at its text's end -/
theorem ends_fs (n : ByteArray) : (fs n).extract ((fs n).size - n.size) (fs n).size = n := by
  have ln : n.data.toList.length = n.size := rfl
  apply ByteArray.ext
  apply Array.toList_inj.1
  rw [list_extract, size_fs, list_fs, List.drop_left' (by simp), List.take_of_length_le (by omega)]

end Go.Proofs.Qxb6612659a.Plain
