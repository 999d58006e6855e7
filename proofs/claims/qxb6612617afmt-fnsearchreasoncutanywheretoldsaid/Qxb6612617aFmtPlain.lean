/-
  The plain laws on searchReason's text: no Go in sight.
-/
import Derived.Test.Qxb6612617aFmtSpr
namespace Go.Proofs.Qxb6612617aFmt

theorem list_reason (r n h : ByteArray) : (reason r n h).data.toList = r.data.toList ++ (mid1 ++ (n.data.toList ++ (mid2 ++ h.data.toList))) := rfl

theorem size_reason (r n h : ByteArray) : (reason r n h).size = r.size + n.size + h.size + 50 := by
  have lr : r.data.toList.length = r.size := rfl
  have ln : n.data.toList.length = n.size := rfl
  have lh : h.data.toList.length = h.size := rfl
  have l : (reason r n h).data.toList.length = (reason r n h).size := rfl
  have l1 : mid1.length = 37 := rfl
  have l2 : mid2.length = 13 := rfl
  rw [list_reason] at l
  simp only [List.length_append] at l
  omega

theorem same_of {a b : ByteArray} (h : a.data.toList = b.data.toList) : (a.toList == b.toList) = true := by
  rw [ByteArray.toList_eq, ByteArray.toList_eq, h]; simp

theorem list_extract (a : ByteArray) (i j : Nat) : (a.extract i j).data.toList = (a.data.toList.drop i).take (j - i) := by
  rw [ByteArray.data_extract, Array.toList_extract, List.extract_eq_take_drop]

theorem list_append (a b : ByteArray) : (a ++ b).data.toList = a.data.toList ++ b.data.toList := by
  rw [ByteArray.data_append, Array.toList_append]

/-- the four texts of the first law, under names of their own -/
theorem parts_slots (r n h : ByteArray) (h1 : n.size ≤ 262144) (h2 : h.size ≤ 262144) :
    ∃ A B C D : ByteArray, A = reason r n h ∧ B = reason ⟨#[]⟩ n h ∧ C = reason ⟨#[]⟩ n ⟨#[]⟩ ∧ D = reason ⟨#[]⟩ ⟨#[]⟩ ⟨#[]⟩ ∧
      B.size ≤ 1000000 ∧ C.size ≤ 1000000 ∧ 37 ≤ D.size ∧ D.size ≤ 1000000 ∧ (A.toList == (r ++ B).toList) = true ∧ (B.toList == (C ++ h).toList) = true ∧
      D = ⟨#[32, 112, 114, 105, 110, 116, 115, 32, 116, 104, 101, 32, 108, 105, 110, 101, 115, 32, 111, 102, 32, 116, 104, 101, 32, 102, 105, 108, 101, 115, 32, 117, 110, 100, 101, 114, 32, 44, 32, 97, 109, 111, 110, 103, 32, 116, 104, 101, 109, 32]⟩ ∧
      (C.toList == (D.extract 0 37 ++ n ++ D.extract 37 D.size).toList) = true := by
  have z0 : (ByteArray.mk #[]).size = 0 := rfl
  have zD := size_reason ⟨#[]⟩ ⟨#[]⟩ ⟨#[]⟩
  have zC := size_reason ⟨#[]⟩ n ⟨#[]⟩
  have zB := size_reason ⟨#[]⟩ n h
  have eD : reason ⟨#[]⟩ ⟨#[]⟩ ⟨#[]⟩ = ⟨#[32, 112, 114, 105, 110, 116, 115, 32, 116, 104, 101, 32, 108, 105, 110, 101, 115, 32, 111, 102, 32, 116, 104, 101, 32, 102, 105, 108, 101, 115, 32, 117, 110, 100, 101, 114, 32, 44, 32, 97, 109, 111, 110, 103, 32, 116, 104, 101, 109, 32]⟩ := rfl
  refine ⟨_, _, _, _, rfl, rfl, rfl, rfl, by omega, by omega, by omega, by omega, ?_, ?_, eD, ?_⟩
  · apply same_of; rw [list_append, list_reason, list_reason]; rfl
  · apply same_of; rw [list_append, list_reason, list_reason]; simp
  · apply same_of
    have a1 : ((reason ⟨#[]⟩ ⟨#[]⟩ ⟨#[]⟩).extract 0 37).data.toList = mid1 := rfl
    have a2 : ((reason ⟨#[]⟩ ⟨#[]⟩ ⟨#[]⟩).extract 37 (reason ⟨#[]⟩ ⟨#[]⟩ ⟨#[]⟩).size).data.toList = mid2 := rfl
    rw [list_append, list_append, a1, a2, list_reason]; simp

end Go.Proofs.Qxb6612617aFmt
