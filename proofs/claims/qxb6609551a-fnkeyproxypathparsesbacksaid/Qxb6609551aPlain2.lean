import Derived.Test.Qxb6609551aPlain
import Derived.Laws.Strings
namespace Go.Proofs.Qxb6609551a.Plain

theorem size_path_in (coll pr nm : ByteArray) : (path coll true pr nm).size = 7 + coll.size + 1 + nm.size + (9 + pr.size + 1) := by
  unfold path under
  rw [if_pos rfl]
  simp only [ByteArray.size_append]
  have e1 : (ByteArray.mk #[47, 112, 114, 111, 120, 121, 47]).size = 7 := rfl
  have e2 : (ByteArray.mk #[112, 114, 111, 106, 101, 99, 116, 115, 47]).size = 9 := rfl
  have e3 : (ByteArray.mk #[47]).size = 1 := rfl
  omega

theorem size_path_out (coll pr nm : ByteArray) : (path coll false pr nm).size = 7 + coll.size + 1 + nm.size := by
  unfold path under
  rw [if_neg (by simp)]
  simp only [ByteArray.size_append]
  have e1 : (ByteArray.mk #[47, 112, 114, 111, 120, 121, 47]).size = 7 := rfl
  have e3 : (ByteArray.mk #[47]).size = 1 := rfl
  omega

theorem list_path_in (coll pr nm : ByteArray) : (path coll true pr nm).data.toList =
    [47, 112, 114, 111, 120, 121, 47] ++ ([112, 114, 111, 106, 101, 99, 116, 115, 47] ++ (pr.data.toList ++ 47 :: (coll.data.toList ++ 47 :: nm.data.toList))) := by
  unfold path under
  rw [if_pos rfl]
  simp [ByteArray.data_append]

theorem list_path_out (coll pr nm : ByteArray) : (path coll false pr nm).data.toList =
    [47, 112, 114, 111, 120, 121, 47] ++ (coll.data.toList ++ 47 :: nm.data.toList) := by
  unfold path under
  rw [if_neg (by simp)]
  simp [ByteArray.data_append]

/-- two texts without a '/', each with a '/' and something behind it: one and the same only if both halves are -/
theorem cut_once {a b x y : List UInt8} (ha : ∀ c ∈ a, c ≠ 47) (hb : ∀ c ∈ b, c ≠ 47) (h : a ++ 47 :: x = b ++ 47 :: y) : a = b ∧ x = y := by
  have e := congrArg slashL h
  rw [slashL_cut ha, slashL_cut hb] at e
  have el : a.length = b.length := by omega
  have := List.append_inj h el
  exact ⟨this.1, by simpa using this.2⟩

theorem same_of {a b : ByteArray} (h : a.data.toList = b.data.toList) : (a.toList == b.toList) = true := by
  rw [ByteArray.toList_eq, ByteArray.toList_eq, h]; simp

theorem of_same {a b : ByteArray} (h : (a.toList == b.toList) = true) : a.data.toList = b.data.toList := by
  rw [ByteArray.toList_eq, ByteArray.toList_eq] at h; simpa using h

theorem differ_of {a b : ByteArray} (h : ¬ a.data.toList = b.data.toList) : (a.toList == b.toList) = false := by
  rw [ByteArray.toList_eq, ByteArray.toList_eq]; simpa using h

theorem of_differ {a b : ByteArray} (h : (a.toList == b.toList) = false) : ¬ a.data.toList = b.data.toList := by
  rw [ByteArray.toList_eq, ByteArray.toList_eq] at h; simpa using h

theorem path_in_same {coll p1 n1 p2 n2 : ByteArray} (hp : (p1.toList == p2.toList) = true) (hn : (n1.toList == n2.toList) = true) :
    ((path coll true p1 n1).toList == (path coll true p2 n2).toList) = true :=
  same_of (by rw [list_path_in, list_path_in, of_same hp, of_same hn])

theorem path_in_differ {coll p1 n1 p2 n2 : ByteArray} (s1 : slash p1 < 0) (s2 : slash p2 < 0) (h : (p1.toList == p2.toList) = false ∨ (n1.toList == n2.toList) = false) :
    ((path coll true p1 n1).toList == (path coll true p2 n2).toList) = false := by
  refine differ_of fun hc => ?_
  rw [list_path_in, list_path_in] at hc
  have h1 := List.append_cancel_left (List.append_cancel_left hc)
  obtain ⟨ep, er⟩ := cut_once (slashL_neg s1) (slashL_neg s2) h1
  have en : n1.data.toList = n2.data.toList := by
    have := List.append_cancel_left er
    simpa using this
  rcases h with h | h
  · exact of_differ h ep
  · exact of_differ h en

theorem path_out_same {coll p1 n1 p2 n2 : ByteArray} (hn : (n1.toList == n2.toList) = true) :
    ((path coll false p1 n1).toList == (path coll false p2 n2).toList) = true :=
  same_of (by rw [list_path_out, list_path_out, of_same hn])

theorem path_out_differ {coll p1 n1 p2 n2 : ByteArray} (h : (n1.toList == n2.toList) = false) :
    ((path coll false p1 n1).toList == (path coll false p2 n2).toList) = false := by
  refine differ_of fun hc => ?_
  rw [list_path_out, list_path_out] at hc
  have := List.append_cancel_left (List.append_cancel_left hc)
  exact of_differ h (by simpa using this)

end Go.Proofs.Qxb6609551a.Plain
